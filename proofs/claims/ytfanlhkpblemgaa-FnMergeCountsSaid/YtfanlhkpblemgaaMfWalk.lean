/- FnMergeCounts: MergeDirs; listed. -/
import Derived.Test.YtfanlhkpblemgaaMeWalk
namespace Go.Proofs.Ytfanlhkpblemgaa
open Go.ChangeShapes Go.WideShapes Go.ChangeAt Go.RowKit Go.Rd
open Go.Proofs.YtfanlhkpblemgaaW.PrintWords Go.Proofs.YtfanlhkpblemgaaW.PrintLast Go.Proofs.YtfanlhkpblemgaaW.PrintMore
open PFnMergeCounts Fi Go.WideMaps
set_option linter.unusedVariables false

theorem doorMerge_any (A1 : Option Addr) (c1 : Nat) (l1 : List S35) (A2 : Option Addr) (c2 : Nat) (l2 : List S35) (w : World) (h1 : ReadsRow (InfK w) 1 w A1 l1.length l1) (h2 : ReadsRow (InfK w) 1 w A2 l2.length l2) (hl1 : l1.length ≤ 1000) (hl2 : l2.length ≤ 1000)
    (hs1 : ∀ x ∈ l1, x.f0.size ≤ 4294967296) (hs2 : ∀ x ∈ l2, x.f0.size ≤ 4294967296) :
    Calls Try.prog 13 #[.slice A1 l1.length c1, .slice A2 l2.length c2] w (MergePost w l1 l2) := by
  have h := merge_any A1 c1 l1 A2 c2 l2 w h1 h2 hl1 hl2 hs1 hs2
  have H := Lib.hid h
  clear h h1 h2 hs1 hs2
  go_enter Try.func13, Try.ntmps13
  go_wp2_with fail
  refine H.out.mono ?_
  rintro e w1 ⟨v, r, rfl, h1, h2, h3⟩
  have H1 := Lib.hid h1
  have H2 := Lib.hid h2
  clear h1 h2
  go_wp2
  go_ret2
  exact ⟨v, r, rfl, H1.out, H2.out, h3⟩
theorem nil_neq (W : World) : (binOp .neq 40 .nilIface .nilIface).run Try.prog W = .ok (.bool false) W := by kernel_rfl
/-- What MergeDirs answers. -/
def DirsPost (w : World) (l1 l2 : List S35) (e : Ending) (w' : World) : Prop := ∃ v r, e = .returned v ∧ OwnRow ToldK 29 5 w' w.heap.size v r ∧ Merged l1 l2 r ∧ Below w.heap.size w w'
theorem merged_len {l1 l2 r : List S35} (h : Merged l1 l2 r) : r.length ≤ l1.length + l2.length := by
  have hmem : ∀ x ∈ r, x ∈ l1 ++ l2 := fun x hx => by
    have := (pick_key (h.1 x hx)).2
    simpa using this
  have hnd : r.Nodup := List.Pairwise.of_map key (fun a b hab e => hab (by rw [e])) h.2.2
  have := length_le_of_sub hnd hmem
  simpa using this
theorem merged_names {l1 l2 r : List S35} (h : Merged l1 l2 r) (h1 : ∀ x ∈ l1, x.f0.size ≤ 4294967296) (h2 : ∀ x ∈ l2, x.f0.size ≤ 4294967296) : ∀ x ∈ r, x.f0.size ≤ 4294967296 := fun x hx => by
  rcases (pick_key (h.1 x hx)).2 with h | h
  · exact h1 x h
  · exact h2 x h
set_option maxRecDepth 100000 in
set_option maxHeartbeats 2000000 in
theorem dirs_any (A1 : Option Addr) (c1 : Nat) (l1 : List S35) (A2 : Option Addr) (c2 : Nat) (l2 : List S35) (w : World) (h1 : ReadsRow (EntK w) 5 w A1 l1.length l1) (h2 : ReadsRow (EntK w) 5 w A2 l2.length l2) (hl1 : l1.length ≤ 400) (hl2 : l2.length ≤ 400)
    (hs1 : ∀ x ∈ l1, x.f0.size ≤ 4294967296 ∧ x.f3.length ≤ 4294967296) (hs2 : ∀ x ∈ l2, x.f0.size ≤ 4294967296 ∧ x.f3.length ≤ 4294967296) :
    Calls Try.prog 7 #[.slice A1 l1.length c1, .slice A2 l2.length c2] w (DirsPost w l1 l2) := by
  have H1 := Lib.hid h1
  have H2 := Lib.hid h2
  have HS1 := Lib.hid hs1
  have HS2 := Lib.hid hs2
  have n1 := fun W => nil_neq W
  clear h1 h2 hs1 hs2
  go_enter Try.func7, Try.ntmps7
  go_wp2_with fail
  refine (infos_any A1 c1 l1 w H1.out (by omega) (fun x hx => (HS1.out x hx).2)).mono ?_
  rintro e w1 ⟨v1, rfl, hO1, hB1⟩
  obtain ⟨Aa, ka, ea, _, hRa⟩ := hO1.reads
  have HRA := Lib.hid hRa
  clear hRa hO1
  subst ea
  go_wp2_with fail
  refine (infos_any A2 c2 l2 w1 (H2.out.imp_ hB1 (fun p c hp => hp.below hB1)) (by omega) (fun x hx => (HS2.out x hx).2)).mono ?_
  rintro e w2 ⟨v2, rfl, hO2, hB2⟩
  obtain ⟨Ab, kb, eb, _, hRb⟩ := hO2.reads
  have HRB := Lib.hid hRb
  clear hRb hO2
  subst eb
  go_wp2_with fail
  refine (doorMerge_any Aa ka l1 Ab kb l2 w2 (HRA.out.imp_ hB2 (fun p c hp => hp.below hB2)) HRB.out (by omega) (by omega) (fun x hx => (HS1.out x hx).1) (fun x hx => (HS2.out x hx).1)).mono ?_
  rintro e w3 ⟨v3, r, rfl, hO3, hM3, hB3⟩
  obtain ⟨Ac, kc, ec, _, hRc⟩ := hO3.reads
  have HRC := Lib.hid hRc
  have HM := Lib.hid hM3
  have hBw := hB1.trans ((hB2.mono hB1.size).trans (hB3.mono (Nat.le_trans hB1.size hB2.size)))
  have hrl := merged_len hM3
  clear hRc hO3 hM3
  subst ec
  go_wp2_with fail
  refine (fromInfos_any Ac kc r w3 HRC.out (by omega) (merged_names HM.out (fun x hx => (HS1.out x hx).1) (fun x hx => (HS2.out x hx).1))).mono ?_
  rintro e w4 ⟨v4, rfl, hO4, hB4⟩
  have HO4 := Lib.hid hO4
  clear hO4
  go_wp2_with fail
  go_ret
  obtain ⟨inner, g1, g2⟩ := HO4.out
  exact ⟨v4, r, rfl, ⟨inner, own_weaken g1 hBw.size, g2⟩, HM.out, hBw.trans (hB4.mono hBw.size)⟩
end Go.Proofs.Ytfanlhkpblemgaa
