/-
  No cell of these rows narrows 'for every input' (looked for: loops, veiled, ifaces, maps, wideKeys, modest, calm, conditions, laid).
  DERIVED. THE GIVEN ROWS OF THIS SEAT. 5 by the template 'for every input the law returns true; each argument reads behind the call as it read before'; 0 by the template 'total and deterministic' (their statements: YtjpahogldfmaeaaTotals.lean).
  GIVEN WITH THE SEED: the statements are not yours to turn. If you find one false, say at which input.
  Laid BY PROGRAM, IN A SANDBOX (cutbox-rows.mjs): the forced cells as the released guide's own fill.sh prints them over the translation 3bd93053933934d6… (all of the seat's roots in one cut). By AI agents, Wed Nov 11 2026. No macro, syntax, notation, axiom, sorry.
-/
import Derived.Test.YtjpahogldfmaeaaChecked
import GoSem.Claim
import GoSem.ClaimJoined
import GoSem.ClaimMapViews
import Derived.JoinedTies
import Derived.KernelRfl
namespace Go.Proofs.Ytjpahogldfmaeaa
/- THE CELL 'sum', in the pinned program and in every row, IS THE sha256 OF THE DUMP (.gsa) THAT YtjpahogldfmaeaaProg.lean LOADS. Nothing in Lean hashes anything: it is a label: what it is worth is what the hold of that sum in a sandbox is worth. -/
noncomputable def Try.pinned : Pinned := { name := "ytjpahogldfmaeaa", sum := "3bd93053933934d6dab7d63dccd15b3842cd50bd267c4a65107e7dd2a92b3137", checked := Try.checked }
namespace Rows
def none {H : Type} : Left H := { results := [], args := [] }

/-- 'laws.FnSplitAll': WHATEVER THE INPUT: true; the input reads as it did. -/
def fnSplitAllSpec : ChangeSpec := { name := "fnSplitAll", fn := fun _ => fun
  | [d] => { results := [.lit (.bool true)], args := [d] }
  | _ => none }
def fnSplitAllRow : OpenClaim := { program := "ytjpahogldfmaeaa", sum := "3bd93053933934d6dab7d63dccd15b3842cd50bd267c4a65107e7dd2a92b3137", func := "pub-marram/laws.FnSplitAll", spec := "fnSplitAll", inPlace := ["internal/bytealg.IndexByteString"], apart := false }
def FnSplitAllSaid : Prop := fnSplitAllRow.holds Try.pinned (OpenSpec.ofChange fnSplitAllSpec)

/-- ITS FALSE NEIGHBOUR: 'it returns false'. Refute it at one input. -/
def fnSplitAllWrong : ChangeSpec := { name := "fnSplitAll", fn := fun _ => fun
  | [d] => { results := [.lit (.bool false)], args := [d] }
  | _ => none }
def FnSplitAllWrongFalsely : Prop := fnSplitAllRow.holds Try.pinned (OpenSpec.ofChange fnSplitAllWrong)

/-- 'laws.FnHashJoined': WHATEVER THE INPUT: true; the input reads as it did. -/
def fnHashJoinedSpec : ChangeSpec := { name := "fnHashJoined", fn := fun _ => fun
  | [d1, d2, d3] => { results := [.lit (.bool true)], args := [d1, d2, d3] }
  | _ => none }
def fnHashJoinedRow : OpenClaim := { program := "ytjpahogldfmaeaa", sum := "3bd93053933934d6dab7d63dccd15b3842cd50bd267c4a65107e7dd2a92b3137", func := "pub-marram/laws.FnHashJoined", spec := "fnHashJoined", apart := false }
def FnHashJoinedSaid : Prop := fnHashJoinedRow.holds Try.pinned (OpenSpec.ofChange fnHashJoinedSpec)

/-- ITS FALSE NEIGHBOUR: 'it returns false'. Refute it at one input. -/
def fnHashJoinedWrong : ChangeSpec := { name := "fnHashJoined", fn := fun _ => fun
  | [d1, d2, d3] => { results := [.lit (.bool false)], args := [d1, d2, d3] }
  | _ => none }
def FnHashJoinedWrongFalsely : Prop := fnHashJoinedRow.holds Try.pinned (OpenSpec.ofChange fnHashJoinedWrong)

/-- 'laws.FnBestGroups': WHATEVER THE INPUT: true; the input reads as it did. -/
def fnBestGroupsSpec : ChangeSpec := { name := "fnBestGroups", fn := fun _ => fun
  | [d1, d2] => { results := [.lit (.bool true)], args := [d1, d2] }
  | _ => none }
def fnBestGroupsRow : OpenClaim := { program := "ytjpahogldfmaeaa", sum := "3bd93053933934d6dab7d63dccd15b3842cd50bd267c4a65107e7dd2a92b3137", func := "pub-marram/laws.FnBestGroups", spec := "fnBestGroups", apart := false }
def FnBestGroupsSaid : Prop := fnBestGroupsRow.holds Try.pinned (OpenSpec.ofChange fnBestGroupsSpec)

/-- ITS FALSE NEIGHBOUR: 'it returns false'. Refute it at one input. -/
def fnBestGroupsWrong : ChangeSpec := { name := "fnBestGroups", fn := fun _ => fun
  | [d1, d2] => { results := [.lit (.bool false)], args := [d1, d2] }
  | _ => none }
def FnBestGroupsWrongFalsely : Prop := fnBestGroupsRow.holds Try.pinned (OpenSpec.ofChange fnBestGroupsWrong)

/-- 'laws.FnExtentsCover': WHATEVER THE INPUT: true; the input reads as it did. -/
def fnExtentsCoverSpec : ChangeSpec := { name := "fnExtentsCover", fn := fun _ => fun
  | [d1, d2, d3] => { results := [.lit (.bool true)], args := [d1, d2, d3] }
  | _ => none }
def fnExtentsCoverRow : OpenClaim := { program := "ytjpahogldfmaeaa", sum := "3bd93053933934d6dab7d63dccd15b3842cd50bd267c4a65107e7dd2a92b3137", func := "pub-marram/laws.FnExtentsCover", spec := "fnExtentsCover", apart := false }
def FnExtentsCoverSaid : Prop := fnExtentsCoverRow.holds Try.pinned (OpenSpec.ofChange fnExtentsCoverSpec)

/-- ITS FALSE NEIGHBOUR: 'it returns false'. Refute it at one input. -/
def fnExtentsCoverWrong : ChangeSpec := { name := "fnExtentsCover", fn := fun _ => fun
  | [d1, d2, d3] => { results := [.lit (.bool false)], args := [d1, d2, d3] }
  | _ => none }
def FnExtentsCoverWrongFalsely : Prop := fnExtentsCoverRow.holds Try.pinned (OpenSpec.ofChange fnExtentsCoverWrong)

/-- 'laws.FnExtentsJoined': WHATEVER THE INPUT: true; the input reads as it did. -/
def fnExtentsJoinedSpec : ChangeSpec := { name := "fnExtentsJoined", fn := fun _ => fun
  | [d1, d2, d3, d4] => { results := [.lit (.bool true)], args := [d1, d2, d3, d4] }
  | _ => none }
def fnExtentsJoinedRow : OpenClaim := { program := "ytjpahogldfmaeaa", sum := "3bd93053933934d6dab7d63dccd15b3842cd50bd267c4a65107e7dd2a92b3137", func := "pub-marram/laws.FnExtentsJoined", spec := "fnExtentsJoined", apart := false }
def FnExtentsJoinedSaid : Prop := fnExtentsJoinedRow.holds Try.pinned (OpenSpec.ofChange fnExtentsJoinedSpec)

/-- ITS FALSE NEIGHBOUR: 'it returns false'. Refute it at one input. -/
def fnExtentsJoinedWrong : ChangeSpec := { name := "fnExtentsJoined", fn := fun _ => fun
  | [d1, d2, d3, d4] => { results := [.lit (.bool false)], args := [d1, d2, d3, d4] }
  | _ => none }
def FnExtentsJoinedWrongFalsely : Prop := fnExtentsJoinedRow.holds Try.pinned (OpenSpec.ofChange fnExtentsJoinedWrong)

/- THE SECOND FORM. 'bulk': how many values and letters a reading holds, each counted each time it is reached (what is shared counts as often as it is met; a slice's spare places count too). A statement '..UptoSaid' is the law's where the arguments, and the package variables that the reading takes, are together of bulk at most 1048576: NARROWER than '..Said'. Prove '..Said' where nothing that the law and all that it calls make is longer than what came in: it says more and counts as full. Else prove '..UptoSaid'. A law counts once. -/
mutual
def uptoBulk {H : Type} : DataW H → Nat
  | .lit (.string bytes) => bytes.length + 1
  | .lit _ => 1
  | .nil => 1
  | .ptr d => uptoBulk d + 1
  | .slice elems spare => uptoBulkAll elems + uptoBulkAll spare + 1
  | .agg parts => uptoBulkAll parts + 1
  | .iface _ d => uptoBulk d + 1
  | .map entries => uptoBulkEntries entries + 1
  | .held _ => 1
def uptoBulkAll {H : Type} : List (DataW H) → Nat
  | [] => 0
  | d :: r => uptoBulk d + uptoBulkAll r
def uptoBulkEntries {H : Type} : List (Lit × DataW H) → Nat
  | [] => 0
  | x :: r => uptoBulkEntry x + uptoBulkEntries r
def uptoBulkEntry {H : Type} : Lit × DataW H → Nat
  | (.string bytes, d) => bytes.length + uptoBulk d + 1
  | (_, d) => uptoBulk d + 1
 end
def uptoSmall : (H : Type) → List (DataW H) → Bool := fun _ ds => decide (uptoBulkAll ds ≤ 1048576)
def OpenSpec.upto (s : _root_.Go.ChangeSpec) : _root_.Go.OpenSpec := { _root_.Go.OpenSpec.ofChange s with cond := some uptoSmall }

/-- 'laws.FnSplitAll', WHERE WHAT IT READS IS OF BULK AT MOST 1048576: true; the input reads as it did. -/
def fnSplitAllUptoRow : OpenClaim := { program := "ytjpahogldfmaeaa", sum := "3bd93053933934d6dab7d63dccd15b3842cd50bd267c4a65107e7dd2a92b3137", func := "pub-marram/laws.FnSplitAll", spec := "fnSplitAll", inPlace := ["internal/bytealg.IndexByteString"], apart := false, narrowed := true }
def FnSplitAllUptoSaid : Prop := fnSplitAllUptoRow.holds Try.pinned (OpenSpec.upto fnSplitAllSpec)

/-- 'laws.FnHashJoined', WHERE WHAT IT READS IS OF BULK AT MOST 1048576: true; the input reads as it did. -/
def fnHashJoinedUptoRow : OpenClaim := { program := "ytjpahogldfmaeaa", sum := "3bd93053933934d6dab7d63dccd15b3842cd50bd267c4a65107e7dd2a92b3137", func := "pub-marram/laws.FnHashJoined", spec := "fnHashJoined", apart := false, narrowed := true }
def FnHashJoinedUptoSaid : Prop := fnHashJoinedUptoRow.holds Try.pinned (OpenSpec.upto fnHashJoinedSpec)

/-- 'laws.FnBestGroups', WHERE WHAT IT READS IS OF BULK AT MOST 1048576: true; the input reads as it did. -/
def fnBestGroupsUptoRow : OpenClaim := { program := "ytjpahogldfmaeaa", sum := "3bd93053933934d6dab7d63dccd15b3842cd50bd267c4a65107e7dd2a92b3137", func := "pub-marram/laws.FnBestGroups", spec := "fnBestGroups", apart := false, narrowed := true }
def FnBestGroupsUptoSaid : Prop := fnBestGroupsUptoRow.holds Try.pinned (OpenSpec.upto fnBestGroupsSpec)

/-- 'laws.FnExtentsCover', WHERE WHAT IT READS IS OF BULK AT MOST 1048576: true; the input reads as it did. -/
def fnExtentsCoverUptoRow : OpenClaim := { program := "ytjpahogldfmaeaa", sum := "3bd93053933934d6dab7d63dccd15b3842cd50bd267c4a65107e7dd2a92b3137", func := "pub-marram/laws.FnExtentsCover", spec := "fnExtentsCover", apart := false, narrowed := true }
def FnExtentsCoverUptoSaid : Prop := fnExtentsCoverUptoRow.holds Try.pinned (OpenSpec.upto fnExtentsCoverSpec)

/-- 'laws.FnExtentsJoined', WHERE WHAT IT READS IS OF BULK AT MOST 1048576: true; the input reads as it did. -/
def fnExtentsJoinedUptoRow : OpenClaim := { program := "ytjpahogldfmaeaa", sum := "3bd93053933934d6dab7d63dccd15b3842cd50bd267c4a65107e7dd2a92b3137", func := "pub-marram/laws.FnExtentsJoined", spec := "fnExtentsJoined", apart := false, narrowed := true }
def FnExtentsJoinedUptoSaid : Prop := fnExtentsJoinedUptoRow.holds Try.pinned (OpenSpec.upto fnExtentsJoinedSpec)

end Rows
end Go.Proofs.Ytjpahogldfmaeaa
