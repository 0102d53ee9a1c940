/- Parts of the proof, merged: TnWalk. -/
import Derived.Test.YtnkhfdnahnphdaaDoorZc04
section
namespace Go.Proofs.YtnkhfdnahnphdaaDoor
open Go.ChangeShapes Go.WideShapes Go.ChangeAt Go.RowKit Go.Rd
open Go.Proofs.YtnkhfdnahnphdaaDoorW.PrintWords Go.Proofs.YtnkhfdnahnphdaaDoorW.PrintLast Go.Proofs.YtnkhfdnahnphdaaDoorW.PrintMore
theorem new_err (s : ByteArray) (w : World) : Calls Tryd.prog 67 #[.string s] w fun e w' => ∃ b, e = .returned (.iface 149 (.pointer (some ⟨b, 0, none⟩))) ∧ w.heap.size ≤ b ∧ (∃ c t, w'.heap[b]? = some (.cells c t (0, 0))) ∧ Below w.heap.size w w' := by
  go_enter Tryd.func67, Tryd.ntmps67
  go_wp2
  go_ret
  exact ⟨_, rfl, Nat.le_refl _, ⟨_, _, alloc_new _ _⟩, (Below.refl _ _).alloc (Nat.le_refl _) _⟩
theorem trunc_neg (f B fd : Nat) (k x rdc : Int) (ad : Nat → Addr) (w : World) (hS : Sents B w ad) (hH : HandleIs w f ⟨x, rdc, false, false, fd⟩) (hk : k < 0) :
    Calls Tryd.prog 38 #[.pointer (some ⟨f, 0, none⟩), .int .i64 k] w fun e w' => e = .returned (.iface 149 (.pointer (some (ad 3)))) ∧ w = w' := by
  have c2 := (cell_of hH 2).trans rfl
  have c3 := (cell_of hH 3).trans rfl
  have s3 := hS.cell 3 (by decide)
  go_enter Tryd.func38, Tryd.ntmps38
  go_wp2
  go_ret
  exact ⟨rfl, rfl⟩
set_option maxRecDepth 100000 in
set_option maxHeartbeats 2000000 in
theorem trunc_ro (f B fd : Nat) (k x rdc : Int) (dv : Value) (d : FD) (w : World) (hH : HandleIs w f ⟨x, rdc, false, true, fd⟩) (hD : DataIs w B fd dv d) :
    Calls Tryd.prog 38 #[.pointer (some ⟨f, 0, none⟩), .int .i64 k] w fun e w' => ∃ b b2, e = .returned (.iface 124 (.pointer (some ⟨b, 0, none⟩))) ∧
      w'.heap[b]? = some (.cells #[.string ⟨#[116, 114, 117, 110, 99, 97, 116, 101]⟩, .string d.nm, .iface 149 (.pointer (some ⟨b2, 0, none⟩))] 127 (0, 0)) ∧
      (∃ c t, w'.heap[b2]? = some (.cells c t (0, 0))) ∧ w.heap.size ≤ b2 ∧ Below w.heap.size w w' := by
  have c2 := (cell_of hH 2).trans rfl
  have c3 := (cell_of hH 3).trans rfl
  have c4 := (cell_of hH 4).trans rfl
  have d0 := (cell_of hD.1 0).trans rfl
  have hfl := lt_of_heap hH
  have hfdl := lt_of_heap hD.1
  go_enter Tryd.func38, Tryd.ntmps38
  go_upto_region 4 with fail
  go_region_law (first
    | (go_simp; go_at_call 67; refine (new_err _ _).mono ?_; rintro e w1 ⟨b2, rfl, hb2, ⟨cc, tt, hc2⟩, hB1⟩; have c4 := (hB1.cell (p := ⟨f, 4, none⟩) hfl).trans c4; have d0 := (hB1.cell (p := ⟨fd, 0, none⟩) hfdl).trans d0))
  all_goals
    go_wp2_with fail
    go_ret
    have hb0 : w.heap.size ≤ w1.heap.size := hB1.size
    refine ⟨_, rfl, b2, alloc_new _ _, ⟨cc, tt, ?_⟩, hb2, (below_drew (Below.refl _ w)).trans (hB1.alloc hb0 _)⟩
    exact (((Below.refl w1.heap.size w1).alloc (Nat.le_refl _) _).block _ (lt_of_heap hc2)).trans hc2
end Go.Proofs.YtnkhfdnahnphdaaDoor
end
