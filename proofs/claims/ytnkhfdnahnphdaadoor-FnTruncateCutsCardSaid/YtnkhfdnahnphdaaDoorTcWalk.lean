/- FnTruncateCuts: the law's walk where Truncate refuses. -/
import Derived.Test.YtnkhfdnahnphdaaDoorTsWalk
import Derived.Test.YtnkhfdnahnphdaaDoorSkWalk
namespace Go.Proofs.YtnkhfdnahnphdaaDoor
open Go.ChangeShapes Go.WideShapes Go.ChangeAt Go.RowKit Go.Rd
open Go.Proofs.YtnkhfdnahnphdaaDoorW.PrintWords Go.Proofs.YtnkhfdnahnphdaaDoorW.PrintLast Go.Proofs.YtnkhfdnahnphdaaDoorW.PrintMore

/-- A step that cuts. -/
def cutStp (z : Int) : Stp := ⟨17, ⟨#[]⟩, ⟨#[]⟩, 0, 0, 0, none, 0, 0, z, 0, 0⟩
theorem stepK_cut (W : World) (z : Int) : StepK W (cutStp z, []) [.int .i64 17, .string ⟨#[]⟩, .string ⟨#[]⟩, .int .i64 0, .int .i64 0, .int .i64 0, .slice none 0 0, .int .i64 z, .int .i64 0, .int .i64 0] :=
  ⟨rfl, bytes_none W⟩

/-- HandleScript with the law's three steps. -/
theorem tc_script (dA : Option Addr) (dm dc : Nat) (data : List Int) (ro : Bool) (k z E : Int) (fin : List Int) (w : World) (hb : BytesIn w dA dm dc data) (hm : dm ≤ 4096) (h1 : 0 ≤ k) (h2 : k ≤ 1099511627776) (hfin : fin.length ≤ 4294967296)
    (hse : ∃ ad, Sents w.heap.size w ad) (hst : StepOkE ⟨k, false, ro, data⟩ (cutStp z, []) ⟨E, 0, 0, []⟩ ⟨k, false, ro, fin⟩) (inner : List Value) (hr : Reps (StepK w) 10 [(seekStp k 0, []), (cutStp z, []), (seekStp 0 1, [])] inner) :
    Calls Tryd.prog 14 #[.slice dA dm dc, .bool ro, .slice (some ⟨w.heap.size, 0, none⟩) 3 3] (w.alloc (.cells inner.toArray 33)) fun e w' => ∃ g cv lA lc, e = .returned (.tuple #[.slice (some ⟨g, 0, none⟩) 3 cv, .slice lA fin.length lc]) ∧ 3 ≤ cv ∧
      w'.cell? ⟨g, 6, none⟩ = some (.int .i64 E) ∧ w'.cell? ⟨g, 14, none⟩ = some (.int .i64 k) ∧ BytesIn w' lA fin.length lc fin ∧ Below w.heap.size w w' := by
  have hdl : data.length = dm := hb.len
  have hR : RunsE ⟨0, false, ro, data⟩ [(seekStp k 0, ([] : List Int)), (cutStp z, []), (seekStp 0 1, [])] [⟨0, 0, k, []⟩, ⟨E, 0, 0, []⟩, ⟨0, 0, k, []⟩] ⟨k, false, ro, fin⟩ := by
    refine .cons (StepOk.toE (ok_seek _ _ _ rfl rfl ⟨by show (_ : Int) ≤ 0; omega, by show (0 : Int) ≤ _; omega⟩ ⟨by show (_ : Int) ≤ k; omega, by show k ≤ _; omega⟩ (by show data.length ≤ _; omega) _ rfl)) ?_
    refine .cons hst ?_
    exact .cons (StepOk.toE (ok_seek _ _ _ rfl rfl ⟨by show (_ : Int) ≤ k; omega, by show k ≤ _; omega⟩ ⟨by show (_ : Int) ≤ 0; omega, by show (0 : Int) ≤ _; omega⟩ (by show fin.length ≤ _; omega) k (by show k + 0 = _; omega))) (.nil _)
  have hBa := (Below.refl w.heap.size w).alloc (Nat.le_refl _) (.cells inner.toArray 33)
  have hse2 : ∃ ad, Sents (w.alloc (.cells inner.toArray 33)).heap.size (w.alloc (.cells inner.toArray 33)) ad := by
    obtain ⟨ad, h⟩ := hse
    exact ⟨ad, (h.below hBa).mono hBa.size⟩
  have h := script_anyE dA dm dc data ro (some ⟨w.heap.size, 0, none⟩) 3 _ _ _ (w.alloc (.cells inner.toArray 33)) (hb.below hBa) (by omega) (steps_lit w _ inner hr (by simp)) (by simp) (Lib.hid hR) hfin (Lib.hid hse2)
  refine h.mono ?_
  rintro e w' ⟨v, lA, lc, rfl, hO, hB1, hB2⟩
  obtain ⟨g, cv, rfl, hcv, hc⟩ := ans_cells hO (by simp)
  exact ⟨g, cv, lA, lc, rfl, hcv, (hc 1 _ rfl).1, (hc 2 _ rfl).2.2, hB1, hBa.trans (hB2.mono (by simp))⟩

set_option maxRecDepth 100000 in
set_option maxHeartbeats 2000000 in
theorem tc_ro (dA : Option Addr) (dm dc : Nat) (data : List Int) (z k : Int) (w : World) (hb : BytesIn w dA dm dc data) (hm : dm ≤ 4096) (hz : z ≤ 4096) (h1 : 0 ≤ k) (h2 : k ≤ 1099511627776) (hse : ∃ ad, Sents w.heap.size w ad) :
    Calls Tryd.prog 5 #[.slice dA dm dc, .bool true, .int .i64 z, .int .i64 k] w fun e w' => e = .returned (.bool true) ∧ Below w.heap.size w w' := by
  have hdl : data.length = dm := hb.len
  have hs := tc_script dA dm dc data true k z
  have HS := Lib.hid hs
  clear hs
  have HSE := Lib.hid hse
  have HD := Lib.hid hdl
  clear hse hdl
  go_enter Tryd.func5, Tryd.ntmps5
  go_wp2_with fail
  refine (HS.out 6 data w hb hm h1 h2 (by rw [HD.out]; omega) HSE.out (okE_trunc_ro _ _ _ rfl rfl rfl) _ ?_).mono ?_
  · exact Reps.c10 (stepK_none _ _ _) (Reps.c10 (stepK_cut _ _) (Reps.c10 (stepK_none _ _ _) (Reps.none _ _)))
  rintro e w1 ⟨g, cv, lA, lc, rfl, hcv, x0, x1, hb1, hB1⟩
  rw [HD.out] at hb1
  have z1 : ∀ j, (convert 22 9 (.slice lA dm lc)).run Tryd.prog (w1.drewN j) = .ok (.string (strOfNums data)) (w1.drewN j) := fun j => bytes_string (hb1.below (pw_below_drewN (Below.refl _ _) j))
  have z2 : ∀ j, (convert 22 9 (.slice dA dm dc)).run Tryd.prog (w1.drewN j) = .ok (.string (strOfNums data)) (w1.drewN j) := fun j => bytes_string ((hb.below hB1).below (pw_below_drewN (Below.refl _ _) j))
  have z3 : (convert 22 9 (.slice lA dm lc)).run Tryd.prog w1 = .ok (.string (strOfNums data)) w1 := z1 0
  have z4 : (convert 22 9 (.slice dA dm dc)).run Tryd.prog w1 = .ok (.string (strOfNums data)) w1 := z2 0
  rw [HD.out]
  go_wp2
  go_ret
  exact ⟨rfl, hB1⟩
set_option maxRecDepth 100000 in
set_option maxHeartbeats 2000000 in
theorem tc_neg (dA : Option Addr) (dm dc : Nat) (data : List Int) (z k : Int) (w : World) (hb : BytesIn w dA dm dc data) (hm : dm ≤ 4096) (hz : z < 0) (h1 : 0 ≤ k) (h2 : k ≤ 1099511627776) (hse : ∃ ad, Sents w.heap.size w ad) :
    Calls Tryd.prog 5 #[.slice dA dm dc, .bool false, .int .i64 z, .int .i64 k] w fun e w' => e = .returned (.bool true) ∧ Below w.heap.size w w' := by
  have hdl : data.length = dm := hb.len
  have hs := tc_script dA dm dc data false k z
  have HS := Lib.hid hs
  clear hs
  have HSE := Lib.hid hse
  have HD := Lib.hid hdl
  clear hse hdl
  go_enter Tryd.func5, Tryd.ntmps5
  go_wp2_with fail
  refine (HS.out 7 data w hb hm h1 h2 (by rw [HD.out]; omega) HSE.out (okE_trunc_neg _ _ _ rfl rfl rfl hz) _ ?_).mono ?_
  · exact Reps.c10 (stepK_none _ _ _) (Reps.c10 (stepK_cut _ _) (Reps.c10 (stepK_none _ _ _) (Reps.none _ _)))
  rintro e w1 ⟨g, cv, lA, lc, rfl, hcv, x0, x1, hb1, hB1⟩
  rw [HD.out] at hb1
  have z1 : ∀ j, (convert 22 9 (.slice lA dm lc)).run Tryd.prog (w1.drewN j) = .ok (.string (strOfNums data)) (w1.drewN j) := fun j => bytes_string (hb1.below (pw_below_drewN (Below.refl _ _) j))
  have z2 : ∀ j, (convert 22 9 (.slice dA dm dc)).run Tryd.prog (w1.drewN j) = .ok (.string (strOfNums data)) (w1.drewN j) := fun j => bytes_string ((hb.below hB1).below (pw_below_drewN (Below.refl _ _) j))
  have z3 : (convert 22 9 (.slice lA dm lc)).run Tryd.prog w1 = .ok (.string (strOfNums data)) w1 := z1 0
  have z4 : (convert 22 9 (.slice dA dm dc)).run Tryd.prog w1 = .ok (.string (strOfNums data)) w1 := z2 0
  rw [HD.out]
  go_wp2
  go_ret
  exact ⟨rfl, hB1⟩
end Go.Proofs.YtnkhfdnahnphdaaDoor
