/- Parts of the proof, merged: UhWalk, UrWalk, UsWalk. -/
import Derived.Test.YtnkhfdnahnphdaaDoorZc04
import Derived.Test.YtnkhfdnahnphdaaDoorZc09
import Derived.Test.YtnkhfdnahnphdaaDoorZc10
import Derived.Test.YtnkhfdnahnphdaaDoorZc14
import Derived.Test.YtnkhfdnahnphdaaDoorZc24
section
namespace Go.Proofs.YtnkhfdnahnphdaaDoor
open Go.ChangeShapes Go.WideShapes Go.ChangeAt Go.RowKit Go.Rd
open Go.Proofs.YtnkhfdnahnphdaaDoorW.PrintWords Go.Proofs.YtnkhfdnahnphdaaDoorW.PrintLast Go.Proofs.YtnkhfdnahnphdaaDoorW.PrintMore
set_option linter.unusedVariables false
set_option linter.unusedSectionVars false
section
variable (f S : Nat) (ad : Nat → Addr) (P : World → Prop) (Fp : Nat → Prop) (k : Int) (s : Stp) (w : World) (hSt : Stab w.heap.size P) (hSw : S ≤ w.heap.size) (hF : ∀ j, Fp j → j < w.heap.size)
include hSt hSw hF
set_option maxRecDepth 100000 in
set_option maxHeartbeats 2000000 in
theorem o23_seek (n : Int) (hop : s.op = 16) (hm : ∀ W : World, Below w.heap.size w W → Calls Tryd.prog 37 #[.pointer (some ⟨f, 0, none⟩), .int .i64 s.off, .int .i64 s.wh] W fun e w' => ∃ v, e = .returned (.tuple #[.int .i64 n, v]) ∧ Beh S ad P Fp k W v w') :
    Calls Tryd.prog 23 #[.pointer (some ⟨f, 0, none⟩), s.val] w fun e w' => e = .returned (ansVal k 0 n (.slice none 0 0)) ∧ P w' ∧ Wrote Fp w w' := by
  obtain ⟨op, name, other, flag, perm, hh, da, dl, dc, off, wh, nn⟩ := s
  simp only at hop hm
  subst hop
  unfold Stp.val ansVal
  simp only
  have HM := Lib.hid hm
  clear hm
  go_enter Tryd.func23, Tryd.ntmps23
  go_wp2_with (first
    | (go_at_call 37; refine (HM.out _ (below3 _ _ _ _)).mono ?_; rintro e w4 ⟨v, rfl, hB⟩; have k1 := keep_at hB.w hF (Nat.le_add_right _ 1) (second_new _ _ _ _); have k2 := keep_at hB.w hF (by omega) (third_new _ _ _ _); obtain ⟨⟨p0, p1, p2, p3, p4, p5⟩, q0, q1, q2, q3, q4, q5⟩ := cells6 k1; obtain ⟨⟨r0, r1, r2, r3, r4, r5⟩, t0, t1, t2, t3, t4, t5⟩ := cells6 k2; have T1 := Typed.of k1; have T2 := Typed.of k2; clear k1 k2; have hB4 := hB.base (below3 w _ _ _); clear hB)
    | (go_at_call 46; refine (Beh.kind (S := S) (ad := ad) (P := P) (Fp := Fp) (k := k) (w := w) (by repeat (first | with_reducible exact hB4 | (with_reducible refine Beh.set ?_ hSt hSw ?_ ?_ _; rotate_left; (repeat (first | with_reducible exact T1 | with_reducible exact T2 | with_reducible refine Typed.set ?_ _ _)); (simp only []; omega))))).mono ?_; rintro e w5 ⟨rfl, rfl⟩))
  refine bodyPost_ret (v := ansVal k 0 n (.slice none 0 0)) (by simp [results, Tryd.results23, go_sem, ansVal, p0, p1, p2, p3, p4, p5]) rfl ?_
  refine ⟨rfl, Beh.two (S := S) (ad := ad) (k := k) (v := v) ?_⟩
  repeat (first | with_reducible exact hB4 | (with_reducible refine Beh.set ?_ hSt hSw ?_ ?_ _; rotate_left; (repeat (first | with_reducible exact T1 | with_reducible exact T2 | with_reducible refine Typed.set ?_ _ _)); (simp only []; omega)))
set_option maxRecDepth 100000 in
set_option maxHeartbeats 2000000 in
theorem o23_trunc (hop : s.op = 17) (hm : ∀ W : World, Below w.heap.size w W → Calls Tryd.prog 38 #[.pointer (some ⟨f, 0, none⟩), .int .i64 s.off] W fun e w' => ∃ v, e = .returned (v) ∧ Beh S ad P Fp k W v w') :
    Calls Tryd.prog 23 #[.pointer (some ⟨f, 0, none⟩), s.val] w fun e w' => e = .returned (ansVal k 0 0 (.slice none 0 0)) ∧ P w' ∧ Wrote Fp w w' := by
  obtain ⟨op, name, other, flag, perm, hh, da, dl, dc, off, wh, nn⟩ := s
  simp only at hop hm
  subst hop
  unfold Stp.val ansVal
  simp only
  have HM := Lib.hid hm
  clear hm
  go_enter Tryd.func23, Tryd.ntmps23
  go_wp2_with (first
    | (go_at_call 38; refine (HM.out _ (below3 _ _ _ _)).mono ?_; rintro e w4 ⟨v, rfl, hB⟩; have k1 := keep_at hB.w hF (Nat.le_add_right _ 1) (second_new _ _ _ _); have k2 := keep_at hB.w hF (by omega) (third_new _ _ _ _); obtain ⟨⟨p0, p1, p2, p3, p4, p5⟩, q0, q1, q2, q3, q4, q5⟩ := cells6 k1; obtain ⟨⟨r0, r1, r2, r3, r4, r5⟩, t0, t1, t2, t3, t4, t5⟩ := cells6 k2; have T1 := Typed.of k1; have T2 := Typed.of k2; clear k1 k2; have hB4 := hB.base (below3 w _ _ _); clear hB)
    | (go_at_call 46; refine (Beh.kind (S := S) (ad := ad) (P := P) (Fp := Fp) (k := k) (w := w) (by repeat (first | with_reducible exact hB4 | (with_reducible refine Beh.set ?_ hSt hSw ?_ ?_ _; rotate_left; (repeat (first | with_reducible exact T1 | with_reducible exact T2 | with_reducible refine Typed.set ?_ _ _)); (simp only []; omega))))).mono ?_; rintro e w5 ⟨rfl, rfl⟩))
  refine bodyPost_ret (v := ansVal k 0 0 (.slice none 0 0)) (by simp [results, Tryd.results23, go_sem, ansVal, p0, p1, p2, p3, p4, p5]) rfl ?_
  refine ⟨rfl, Beh.two (S := S) (ad := ad) (k := k) (v := v) ?_⟩
  repeat (first | with_reducible exact hB4 | (with_reducible refine Beh.set ?_ hSt hSw ?_ ?_ _; rotate_left; (repeat (first | with_reducible exact T1 | with_reducible exact T2 | with_reducible refine Typed.set ?_ _ _)); (simp only []; omega)))
set_option maxRecDepth 100000 in
set_option maxHeartbeats 2000000 in
theorem o23_close (hop : s.op = 18) (hm : ∀ W : World, Below w.heap.size w W → Calls Tryd.prog 39 #[.pointer (some ⟨f, 0, none⟩)] W fun e w' => ∃ v, e = .returned (v) ∧ Beh S ad P Fp k W v w') :
    Calls Tryd.prog 23 #[.pointer (some ⟨f, 0, none⟩), s.val] w fun e w' => e = .returned (ansVal k 0 0 (.slice none 0 0)) ∧ P w' ∧ Wrote Fp w w' := by
  obtain ⟨op, name, other, flag, perm, hh, da, dl, dc, off, wh, nn⟩ := s
  simp only at hop hm
  subst hop
  unfold Stp.val ansVal
  simp only
  have HM := Lib.hid hm
  clear hm
  go_enter Tryd.func23, Tryd.ntmps23
  go_wp2_with (first
    | (go_at_call 39; refine (HM.out _ (below3 _ _ _ _)).mono ?_; rintro e w4 ⟨v, rfl, hB⟩; have k1 := keep_at hB.w hF (Nat.le_add_right _ 1) (second_new _ _ _ _); have k2 := keep_at hB.w hF (by omega) (third_new _ _ _ _); obtain ⟨⟨p0, p1, p2, p3, p4, p5⟩, q0, q1, q2, q3, q4, q5⟩ := cells6 k1; obtain ⟨⟨r0, r1, r2, r3, r4, r5⟩, t0, t1, t2, t3, t4, t5⟩ := cells6 k2; have T1 := Typed.of k1; have T2 := Typed.of k2; clear k1 k2; have hB4 := hB.base (below3 w _ _ _); clear hB)
    | (go_at_call 46; refine (Beh.kind (S := S) (ad := ad) (P := P) (Fp := Fp) (k := k) (w := w) (by repeat (first | with_reducible exact hB4 | (with_reducible refine Beh.set ?_ hSt hSw ?_ ?_ _; rotate_left; (repeat (first | with_reducible exact T1 | with_reducible exact T2 | with_reducible refine Typed.set ?_ _ _)); (simp only []; omega))))).mono ?_; rintro e w5 ⟨rfl, rfl⟩))
  refine bodyPost_ret (v := ansVal k 0 0 (.slice none 0 0)) (by simp [results, Tryd.results23, go_sem, ansVal, p0, p1, p2, p3, p4, p5]) rfl ?_
  refine ⟨rfl, Beh.two (S := S) (ad := ad) (k := k) (v := v) ?_⟩
  repeat (first | with_reducible exact hB4 | (with_reducible refine Beh.set ?_ hSt hSw ?_ ?_ _; rotate_left; (repeat (first | with_reducible exact T1 | with_reducible exact T2 | with_reducible refine Typed.set ?_ _ _)); (simp only []; omega)))
set_option maxRecDepth 100000 in
set_option maxHeartbeats 2000000 in
theorem o23_sync (hop : s.op = 23) (hm : ∀ W : World, Below w.heap.size w W → Calls Tryd.prog 45 #[.pointer (some ⟨f, 0, none⟩)] W fun e w' => ∃ v, e = .returned (v) ∧ Beh S ad P Fp k W v w') :
    Calls Tryd.prog 23 #[.pointer (some ⟨f, 0, none⟩), s.val] w fun e w' => e = .returned (ansVal k 0 0 (.slice none 0 0)) ∧ P w' ∧ Wrote Fp w w' := by
  obtain ⟨op, name, other, flag, perm, hh, da, dl, dc, off, wh, nn⟩ := s
  simp only at hop hm
  subst hop
  unfold Stp.val ansVal
  simp only
  have HM := Lib.hid hm
  clear hm
  go_enter Tryd.func23, Tryd.ntmps23
  go_wp2_with (first
    | (go_at_call 45; refine (HM.out _ (below3 _ _ _ _)).mono ?_; rintro e w4 ⟨v, rfl, hB⟩; have k1 := keep_at hB.w hF (Nat.le_add_right _ 1) (second_new _ _ _ _); have k2 := keep_at hB.w hF (by omega) (third_new _ _ _ _); obtain ⟨⟨p0, p1, p2, p3, p4, p5⟩, q0, q1, q2, q3, q4, q5⟩ := cells6 k1; obtain ⟨⟨r0, r1, r2, r3, r4, r5⟩, t0, t1, t2, t3, t4, t5⟩ := cells6 k2; have T1 := Typed.of k1; have T2 := Typed.of k2; clear k1 k2; have hB4 := hB.base (below3 w _ _ _); clear hB)
    | (go_at_call 46; refine (Beh.kind (S := S) (ad := ad) (P := P) (Fp := Fp) (k := k) (w := w) (by repeat (first | with_reducible exact hB4 | (with_reducible refine Beh.set ?_ hSt hSw ?_ ?_ _; rotate_left; (repeat (first | with_reducible exact T1 | with_reducible exact T2 | with_reducible refine Typed.set ?_ _ _)); (simp only []; omega))))).mono ?_; rintro e w5 ⟨rfl, rfl⟩))
  refine bodyPost_ret (v := ansVal k 0 0 (.slice none 0 0)) (by simp [results, Tryd.results23, go_sem, ansVal, p0, p1, p2, p3, p4, p5]) rfl ?_
  refine ⟨rfl, Beh.two (S := S) (ad := ad) (k := k) (v := v) ?_⟩
  repeat (first | with_reducible exact hB4 | (with_reducible refine Beh.set ?_ hSt hSw ?_ ?_ _; rotate_left; (repeat (first | with_reducible exact T1 | with_reducible exact T2 | with_reducible refine Typed.set ?_ _ _)); (simp only []; omega)))
set_option maxRecDepth 100000 in
set_option maxHeartbeats 2000000 in
theorem o23_list (hop : s.op = 19) (hm : ∀ W : World, Below w.heap.size w W → Calls Tryd.prog 40 #[.pointer (some ⟨f, 0, none⟩), .int .i64 s.n] W fun e w' => ∃ v, e = .returned (.tuple #[.slice none 0 0, v]) ∧ Beh S ad P Fp k W v w') :
    Calls Tryd.prog 23 #[.pointer (some ⟨f, 0, none⟩), s.val] w fun e w' => e = .returned (ansVal k 0 0 (.slice none 0 0)) ∧ P w' ∧ Wrote Fp w w' := by
  obtain ⟨op, name, other, flag, perm, hh, da, dl, dc, off, wh, nn⟩ := s
  simp only at hop hm
  subst hop
  unfold Stp.val ansVal
  simp only
  have HM := Lib.hid hm
  clear hm
  go_enter Tryd.func23, Tryd.ntmps23
  go_wp2_with (first
    | (go_at_call 40; refine (HM.out _ (below3 _ _ _ _)).mono ?_; rintro e w4 ⟨v, rfl, hB⟩; have k1 := keep_at hB.w hF (Nat.le_add_right _ 1) (second_new _ _ _ _); have k2 := keep_at hB.w hF (by omega) (third_new _ _ _ _); obtain ⟨⟨p0, p1, p2, p3, p4, p5⟩, q0, q1, q2, q3, q4, q5⟩ := cells6 k1; obtain ⟨⟨r0, r1, r2, r3, r4, r5⟩, t0, t1, t2, t3, t4, t5⟩ := cells6 k2; have T1 := Typed.of k1; have T2 := Typed.of k2; clear k1 k2; have hB4 := hB.base (below3 w _ _ _); clear hB)
    | (go_at_call 41; refine (infos_none _).mono ?_; rintro e w6 ⟨rfl, rfl⟩)
    | (go_at_call 46; refine (Beh.kind (S := S) (ad := ad) (P := P) (Fp := Fp) (k := k) (w := w) (by repeat (first | with_reducible exact hB4 | (with_reducible refine Beh.set ?_ hSt hSw ?_ ?_ _; rotate_left; (repeat (first | with_reducible exact T1 | with_reducible exact T2 | with_reducible refine Typed.set ?_ _ _)); (simp only []; omega))))).mono ?_; rintro e w5 ⟨rfl, rfl⟩))
  refine bodyPost_ret (v := ansVal k 0 0 (.slice none 0 0)) (by simp [results, Tryd.results23, go_sem, ansVal, p0, p1, p2, p3, p4, p5]) rfl ?_
  refine ⟨rfl, Beh.two (S := S) (ad := ad) (k := k) (v := v) ?_⟩
  repeat (first | with_reducible exact hB4 | (with_reducible refine Beh.set ?_ hSt hSw ?_ ?_ _; rotate_left; (repeat (first | with_reducible exact T1 | with_reducible exact T2 | with_reducible refine Typed.set ?_ _ _)); (simp only []; omega)))
set_option maxRecDepth 100000 in
set_option maxHeartbeats 2000000 in
theorem o23_names (Pn : Option Addr → Nat → Prop) (hop : s.op = 20) (hm : ∀ W : World, Below w.heap.size w W → Calls Tryd.prog 42 #[.pointer (some ⟨f, 0, none⟩), .int .i64 s.n] W fun e w' => ∃ v na nc, e = .returned (.tuple #[.slice na 0 nc, v]) ∧ Pn na nc ∧ Beh S ad P Fp k W v w') :
    Calls Tryd.prog 23 #[.pointer (some ⟨f, 0, none⟩), s.val] w fun e w' => ∃ na nc, e = .returned (ansNames k 0 0 (.slice none 0 0) (.slice na 0 nc)) ∧ Pn na nc ∧ P w' ∧ Wrote Fp w w' := by
  obtain ⟨op, name, other, flag, perm, hh, da, dl, dc, off, wh, nn⟩ := s
  simp only at hop hm
  subst hop
  unfold Stp.val ansNames
  simp only
  have HM := Lib.hid hm
  clear hm
  go_enter Tryd.func23, Tryd.ntmps23
  go_wp2_with (first
    | (go_at_call 42; refine (HM.out _ (below3 _ _ _ _)).mono ?_; rintro e w4 ⟨v, na, nc, rfl, hpn, hB⟩; have k1 := keep_at hB.w hF (Nat.le_add_right _ 1) (second_new _ _ _ _); have k2 := keep_at hB.w hF (by omega) (third_new _ _ _ _); obtain ⟨⟨p0, p1, p2, p3, p4, p5⟩, q0, q1, q2, q3, q4, q5⟩ := cells6 k1; obtain ⟨⟨r0, r1, r2, r3, r4, r5⟩, t0, t1, t2, t3, t4, t5⟩ := cells6 k2; have T1 := Typed.of k1; have T2 := Typed.of k2; clear k1 k2; have hB4 := hB.base (below3 w _ _ _); clear hB)
    | (go_at_call 46; refine (Beh.kind (S := S) (ad := ad) (P := P) (Fp := Fp) (k := k) (w := w) (by repeat (first | with_reducible exact hB4 | (with_reducible refine Beh.set ?_ hSt hSw ?_ ?_ _; rotate_left; (repeat (first | with_reducible exact T1 | with_reducible exact T2 | with_reducible refine Typed.set ?_ _ _)); (simp only []; omega))))).mono ?_; rintro e w5 ⟨rfl, rfl⟩))
  refine bodyPost_ret (v := ansNames k 0 0 (.slice none 0 0) (.slice na 0 nc)) (by simp [results, Tryd.results23, go_sem, ansNames, p0, p1, p2, p3, p4, p5]) rfl ?_
  refine ⟨_, _, rfl, hpn, Beh.two (S := S) (ad := ad) (k := k) (v := v) ?_⟩
  repeat (first | with_reducible exact hB4 | (with_reducible refine Beh.set ?_ hSt hSw ?_ ?_ _; rotate_left; (repeat (first | with_reducible exact T1 | with_reducible exact T2 | with_reducible refine Typed.set ?_ _ _)); (simp only []; omega)))
set_option maxRecDepth 100000 in
set_option maxHeartbeats 2000000 in
theorem o23_write (n : Int) (b : List Int) (hop : s.op = 14) (hb : BytesIn w s.da s.dl s.dc b) (hdl : s.dl ≤ 4294967296) (hm : ∀ (W : World) (A : Option Addr) (c : Nat), Below w.heap.size w W → BytesIn W A s.dl c b → (∀ y, A = some y → w.heap.size ≤ y.block) → Calls Tryd.prog 35 #[.pointer (some ⟨f, 0, none⟩), .slice A s.dl c] W fun e w' => ∃ v, e = .returned (.tuple #[.int .i64 n, v]) ∧ Beh S ad P Fp k W v w') :
    Calls Tryd.prog 23 #[.pointer (some ⟨f, 0, none⟩), s.val] w fun e w' => e = .returned (ansVal k n 0 (.slice none 0 0)) ∧ P w' ∧ Wrote Fp w w' := by
  obtain ⟨op, name, other, flag, perm, hh, da, dl, dc, off, wh, nn⟩ := s
  simp only at hop hm hb hdl
  subst hop
  unfold Stp.val ansVal
  simp only
  have HM := Lib.hid hm
  clear hm
  go_enter Tryd.func23, Tryd.ntmps23
  go_wp2_with (at_builtin; refine append_src rfl (.const (.slice none 0 0)) (.tmp 58) 22 rfl (w.heap.size + 1 + 1 + 1) 5 _ (.int .u8 0) 1 1 Tryd.underlying22 rfl rfl rfl rfl rfl (by decide) (.slice none 0 0) 0 [] rfl (World.ownsRow_nil _ _ _ _) da dl dc (b.map (Value.int .u8)) rfl (hb.src).1 hb.nil (hb.below (below3 _ _ _ _)).cells (hb.src).2.2.2 (by unfold maxLen; omega) (by omega) (by simp) ?_; intro v1 w1 ho1 hg1)
  rw [Nat.zero_add, List.nil_append] at ho1
  obtain ⟨A1, c1, ev1, hb1⟩ := BytesIn.own ho1 hb.fits
  subst ev1
  have hB1 : Below w.heap.size w w1 := (below3 w _ _ _).trans ⟨hg1.os, hg1.tape, hg1.output, hg1.size, fun k hk => hg1.block k (by simp; omega) (by simp [Value.ownBlock])⟩
  have k1 := (hg1.block _ (by simp) (by simp [Value.ownBlock])).trans (second_new w _ _ _)
  have k2 := (hg1.block _ (by simp) (by simp [Value.ownBlock])).trans (third_new w _ _ _)
  have hA1 : ∀ y, A1 = some y → w.heap.size ≤ y.block := fun y hy => by
    subst hy
    have := own_base ho1 y.block rfl
    omega
  refine (HM.out w1 A1 c1 hB1 hb1 hA1).mono ?_
  rintro e w4 ⟨v, rfl, hB⟩
  have k1 := keep_at hB.w hF (Nat.le_add_right _ 1) k1
  have k2 := keep_at hB.w hF (by omega) k2
  obtain ⟨⟨p0, p1, p2, p3, p4, p5⟩, q0, q1, q2, q3, q4, q5⟩ := cells6 k1; obtain ⟨⟨r0, r1, r2, r3, r4, r5⟩, t0, t1, t2, t3, t4, t5⟩ := cells6 k2; have T1 := Typed.of k1; have T2 := Typed.of k2; clear k1 k2
  have hB4 := hB.base hB1
  clear hB
  go_wp2_with (go_at_call 46; refine (Beh.kind (S := S) (ad := ad) (P := P) (Fp := Fp) (k := k) (w := w) (by repeat (first | with_reducible exact hB4 | (with_reducible refine Beh.set ?_ hSt hSw ?_ ?_ _; rotate_left; (repeat (first | with_reducible exact T1 | with_reducible exact T2 | with_reducible refine Typed.set ?_ _ _)); (simp only []; omega))))).mono ?_; rintro e w5 ⟨rfl, rfl⟩)
  refine bodyPost_ret (v := ansVal k n 0 (.slice none 0 0)) (by simp [results, Tryd.results23, go_sem, ansVal, p0, p1, p2, p3, p4, p5]) rfl ?_
  refine ⟨rfl, Beh.two (S := S) (ad := ad) (k := k) (v := v) ?_⟩
  repeat (first | with_reducible exact hB4 | (with_reducible refine Beh.set ?_ hSt hSw ?_ ?_ _; rotate_left; (repeat (first | with_reducible exact T1 | with_reducible exact T2 | with_reducible refine Typed.set ?_ _ _)); (simp only []; omega)))
set_option maxRecDepth 100000 in
set_option maxHeartbeats 2000000 in
theorem o23_write_at (n : Int) (b : List Int) (hop : s.op = 15) (hb : BytesIn w s.da s.dl s.dc b) (hdl : s.dl ≤ 4294967296) (hm : ∀ (W : World) (A : Option Addr) (c : Nat), Below w.heap.size w W → BytesIn W A s.dl c b → (∀ y, A = some y → w.heap.size ≤ y.block) → Calls Tryd.prog 36 #[.pointer (some ⟨f, 0, none⟩), .slice A s.dl c, .int .i64 s.off] W fun e w' => ∃ v, e = .returned (.tuple #[.int .i64 n, v]) ∧ Beh S ad P Fp k W v w') :
    Calls Tryd.prog 23 #[.pointer (some ⟨f, 0, none⟩), s.val] w fun e w' => e = .returned (ansVal k n 0 (.slice none 0 0)) ∧ P w' ∧ Wrote Fp w w' := by
  obtain ⟨op, name, other, flag, perm, hh, da, dl, dc, off, wh, nn⟩ := s
  simp only at hop hm hb hdl
  subst hop
  unfold Stp.val ansVal
  simp only
  have HM := Lib.hid hm
  clear hm
  go_enter Tryd.func23, Tryd.ntmps23
  go_upto_region 18 with fail
  have h0 := first_new w (.cells #[.int .i64 15, .string name, .string other, .int .i64 flag, .int .i64 perm, .int .i64 hh, .slice da dl dc, .int .i64 off, .int .i64 wh, .int .i64 nn] 33) (.cells #[.int .i64 0, .int .i64 0, .int .i64 0, .slice none 0 0, .slice none 0 0, .slice none 0 0] 42) (.cells #[.int .i64 0, .int .i64 0, .int .i64 0, .slice none 0 0, .slice none 0 0, .slice none 0 0] 42)
  have h1 := second_new w (.cells #[.int .i64 15, .string name, .string other, .int .i64 flag, .int .i64 perm, .int .i64 hh, .slice da dl dc, .int .i64 off, .int .i64 wh, .int .i64 nn] 33) (.cells #[.int .i64 0, .int .i64 0, .int .i64 0, .slice none 0 0, .slice none 0 0, .slice none 0 0] 42) (.cells #[.int .i64 0, .int .i64 0, .int .i64 0, .slice none 0 0, .slice none 0 0, .slice none 0 0] 42)
  have h2 := third_new w (.cells #[.int .i64 15, .string name, .string other, .int .i64 flag, .int .i64 perm, .int .i64 hh, .slice da dl dc, .int .i64 off, .int .i64 wh, .int .i64 nn] 33) (.cells #[.int .i64 0, .int .i64 0, .int .i64 0, .slice none 0 0, .slice none 0 0, .slice none 0 0] 42) (.cells #[.int .i64 0, .int .i64 0, .int .i64 0, .slice none 0 0, .slice none 0 0, .slice none 0 0] 42)
  have hb3 := below3 w (.cells #[.int .i64 15, .string name, .string other, .int .i64 flag, .int .i64 perm, .int .i64 hh, .slice da dl dc, .int .i64 off, .int .i64 wh, .int .i64 nn] 33) (.cells #[.int .i64 0, .int .i64 0, .int .i64 0, .slice none 0 0, .slice none 0 0, .slice none 0 0] 42) (.cells #[.int .i64 0, .int .i64 0, .int .i64 0, .slice none 0 0, .slice none 0 0, .slice none 0 0] 42)
  generalize ((w.alloc (.cells #[.int .i64 15, .string name, .string other, .int .i64 flag, .int .i64 perm, .int .i64 hh, .slice da dl dc, .int .i64 off, .int .i64 wh, .int .i64 nn] 33)).alloc (.cells #[.int .i64 0, .int .i64 0, .int .i64 0, .slice none 0 0, .slice none 0 0, .slice none 0 0] 42)).alloc (.cells #[.int .i64 0, .int .i64 0, .int .i64 0, .slice none 0 0, .slice none 0 0, .slice none 0 0] 42) = W3 at *
  have hn2 := lt_of_heap h2
  have s6 := (cell_of h0 6).trans rfl
  have s7 := (cell_of h0 7).trans rfl
  have hR := run_dup (P := Tryd.prog) (w := W3.drew) 22 22 5 Tryd.underlying22 infoU8 da dl dc b ((hb.below hb3).below ((Below.refl _ _).drew)) (by omega)
  have HR := Lib.hid hR
  clear hR
  go_region_law (first
    | (refine step_append_run rfl (.const (.slice none 0 0)) (.tmp 69) 22 rfl (.slice none 0 0) (.slice da dl dc) (by simp [Act.eval]) (by simp [Act.eval]) _ HR.out ?_; rintro v1 w1 ⟨A2, c2, ev1, hb2, hbl2, _, hbe2⟩; subst ev1; have s7' := (hbe2.cell (p := ⟨w.heap.size, 7, none⟩) (by show w.heap.size < W3.heap.size; omega)).trans s7)
    | (go_simp; go_at_call 36; have hBx : Below w.heap.size w w1 := hb3.trans (Below.mono (w := W3) (w' := w1) ⟨hbe2.os, hbe2.tape, hbe2.output, hbe2.size, hbe2.block⟩ hb3.size); refine (HM.out w1 A2 c2 hBx hb2 (fun y hy => by have := hbl2 y hy; have hs : W3.drew.heap.size = W3.heap.size := rfl; have := hb3.size; omega)).mono ?_; rintro e w4 ⟨v, rfl, hB⟩; have k1 := keep_at hB.w hF (Nat.le_add_right _ 1) ((hbe2.block (w.heap.size + 1) (by show w.heap.size + 1 < W3.heap.size; omega)).trans h1); have k2 := keep_at hB.w hF (by omega) ((hbe2.block (w.heap.size + 1 + 1) (by show w.heap.size + 1 + 1 < W3.heap.size; omega)).trans h2); obtain ⟨⟨p0, p1, p2, p3, p4, p5⟩, q0, q1, q2, q3, q4, q5⟩ := cells6 k1; obtain ⟨⟨r0, r1, r2, r3, r4, r5⟩, t0, t1, t2, t3, t4, t5⟩ := cells6 k2))
  all_goals
    have T1 := Typed.of k1
    have T2 := Typed.of k2
    clear k1 k2
    have hB4 := hB.base hBx
    clear hB
    go_wp2_with (go_at_call 46; refine (Beh.kind (S := S) (ad := ad) (P := P) (Fp := Fp) (k := k) (w := w) (by repeat (first | with_reducible exact hB4 | (with_reducible refine Beh.set ?_ hSt hSw ?_ ?_ _; rotate_left; (repeat (first | with_reducible exact T1 | with_reducible exact T2 | with_reducible refine Typed.set ?_ _ _)); (simp only []; omega))))).mono ?_; rintro e w5 ⟨rfl, rfl⟩)
    refine bodyPost_ret (v := ansVal k n 0 (.slice none 0 0)) (by simp [results, Tryd.results23, go_sem, ansVal, p0, p1, p2, p3, p4, p5]) rfl ?_
    refine ⟨rfl, Beh.two (S := S) (ad := ad) (k := k) (v := v) ?_⟩
    repeat (first | with_reducible exact hB4 | (with_reducible refine Beh.set ?_ hSt hSw ?_ ?_ _; rotate_left; (repeat (first | with_reducible exact T1 | with_reducible exact T2 | with_reducible refine Typed.set ?_ _ _)); (simp only []; omega)))
/-- What a step that reads leaves. -/
def Read23 (w : World) (P : World → Prop) (Fp : Nat → Prop) (n : Nat) (k : Int) (r : List Int) (e : Ending) (w' : World) : Prop :=
  ∃ A c, e = .returned (ansVal k 0 0 (.slice A n c)) ∧ BytesIn w' A n c r ∧ (∀ y, A = some y → w.heap.size ≤ y.block ∧ y.block < w'.heap.size) ∧ P w' ∧ Wrote Fp w w'
set_option maxRecDepth 100000 in
set_option maxHeartbeats 2000000 in
theorem o23_read (m n : Nat) (r : List Int) (hop : s.op = 12) (hn : s.n = (m : Int)) (hmm : m ≤ 1000000) (hrl : r.length = n) (hnm : n ≤ m) (hfit : ∀ x ∈ r, 0 ≤ x ∧ x ≤ 255) (hm : ∀ (W : World) (g : Nat) (cur : Array Value), Below w.heap.size w W → w.heap.size ≤ g → cur.size = m → W.heap[g]? = some (.cells cur 5 (0, 0)) → Calls Tryd.prog 33 #[.pointer (some ⟨f, 0, none⟩), .slice (some ⟨g, 0, none⟩) m m] W fun e w' => ∃ v, e = .returned (.tuple #[.int .i64 (r.length : Int), v]) ∧ GotIn w' g m r ∧ Beh S ad P (fun j => Fp j ∨ j = g) k W v w') :
    Calls Tryd.prog 23 #[.pointer (some ⟨f, 0, none⟩), s.val] w (Read23 w P Fp n k r) := by
  obtain ⟨op, name, other, flag, perm, hh, da, dl, dc, off, wh, nn⟩ := s
  simp only at hop hn
  subst hop hn
  unfold Stp.val
  simp only
  have HRL := Lib.hid hrl
  have HM := Lib.hid hm
  clear hrl hm
  obtain ⟨i0, hi, hzz⟩ := Option.map_eq_some_iff.1 infoU8
  simp only [Prod.mk.injEq] at hzz
  rcases Nat.eq_zero_or_pos m with rfl | hpos
  · obtain ⟨Z, hZ, hZs, hmk⟩ := make_run (P := Tryd.prog) (t := 22) Tryd.underlying22 hi hzz.1 0 (by omega) (by unfold maxLen; omega)
    have hZm : Z.size = 0 := by rw [hZs, hzz.2.1]
    have HZ := Lib.hid hZm
    have hmk0 : ∀ W : World, (Instr.makeSlice 22 (.int .i64 0) (.int .i64 0)).run Tryd.prog W = .ok (.slice (some ⟨W.heap.size, 0, none⟩) 0 0) (W.alloc (.cells Z 5)) := hmk
    clear hmk hZ hZs hzz hi hZm
    obtain rfl : n = 0 := by omega
    go_enter Tryd.func23, Tryd.ntmps23
    go_wp2_with fail
    refine (HM.out _ _ Z (below4 _ _ _ _ _) (by omega) HZ.out (fourth_new _ _ _ _ _)).mono ?_
    rw [HRL.out]
    rintro e w4 ⟨v, rfl, hG4, hB⟩
    have k1 := (hB.w.block _ (by simp <;> omega) (by rintro (e | e) <;> first | (have := hF _ e; omega) | omega)).trans (second_new4 _ _ _ _ _)
    have k2 := (hB.w.block _ (by simp <;> omega) (by rintro (e | e) <;> first | (have := hF _ e; omega) | omega)).trans (third_new4 _ _ _ _ _)
    have hB4 : Beh S ad P Fp k w v w4 := ⟨hB.e, hB.p, hB.s, ((Wrote.of_below (S := fun j => Fp j ∨ j = w.heap.size + 1 + 1 + 1) (below4 w _ _ _ _)).trans hB.w).mono (fun j hj e => by
      rcases e with e | e
      · exact e
      · omega)⟩
    clear hB
    obtain ⟨⟨p0, p1, p2, p3, p4, p5⟩, q0, q1, q2, q3, q4, q5⟩ := cells6 k1; obtain ⟨⟨r0, r1, r2, r3, r4, r5⟩, t0, t1, t2, t3, t4, t5⟩ := cells6 k2; have T1 := Typed.of k1; have T2 := Typed.of k2; clear k1 k2
    go_wp2_with (go_at_call 46; refine (Beh.kind (S := S) (ad := ad) (P := P) (Fp := Fp) (k := k) (w := w) (by repeat (first | with_reducible exact hB4 | (with_reducible refine Beh.set ?_ hSt hSw ?_ ?_ _; rotate_left; (repeat (first | with_reducible exact T1 | with_reducible exact T2 | with_reducible refine Typed.set ?_ _ _)); (simp only []; omega))))).mono ?_; rintro e w5 ⟨rfl, rfl⟩)
    refine bodyPost_ret (v := ansVal k 0 0 (.slice (some ⟨w.heap.size + 1 + 1 + 1, 0, none⟩) 0 0)) (by simp [results, Tryd.results23, go_sem, ansVal, p0, p1, p2, p3, p4, p5]) rfl ?_
    refine ⟨_, _, rfl, ?_, ?_, Beh.two (S := S) (ad := ad) (k := k) (v := v) ?_⟩
    rotate_right
    · repeat (first | with_reducible exact hB4 | (with_reducible refine Beh.set ?_ hSt hSw ?_ ?_ _; rotate_left; (repeat (first | with_reducible exact T1 | with_reducible exact T2 | with_reducible refine Typed.set ?_ _ _)); (simp only []; omega)))
    · refine GotIn.bytes ?_ HRL.out (Nat.le_refl _) (by omega) hfit
      · repeat (first | with_reducible exact hG4 | (with_reducible refine GotIn.set ?_ ?_ _; rotate_left; (simp only []; omega)))
    · intro y hy
      cases hy
      refine ⟨by simp only []; omega, ?_⟩
      refine GotIn.lt (m := 0) (r := r) ?_
      repeat (first | with_reducible exact hG4 | (with_reducible refine GotIn.set ?_ ?_ _; rotate_left; (simp only []; omega)))
  · obtain ⟨Z, hZ, hZs, hmk⟩ := make_run (P := Tryd.prog) (t := 22) Tryd.underlying22 hi hzz.1 m (by rw [hzz.2.2]; omega) (by unfold maxLen; omega)
    have hZm : Z.size = m := by rw [hZs, hzz.2.1]; omega
    have HZ := Lib.hid hZm
    clear hZ hZs hzz hi hZm
    go_enter Tryd.func23, Tryd.ntmps23
    go_wp2_with fail
    refine (HM.out _ _ Z (below4 _ _ _ _ _) (by omega) HZ.out (fourth_new _ _ _ _ _)).mono ?_
    rw [HRL.out]
    rintro e w4 ⟨v, rfl, hG4, hB⟩
    have k1 := (hB.w.block _ (by simp <;> omega) (by rintro (e | e) <;> first | (have := hF _ e; omega) | omega)).trans (second_new4 _ _ _ _ _)
    have k2 := (hB.w.block _ (by simp <;> omega) (by rintro (e | e) <;> first | (have := hF _ e; omega) | omega)).trans (third_new4 _ _ _ _ _)
    have hB4 : Beh S ad P Fp k w v w4 := ⟨hB.e, hB.p, hB.s, ((Wrote.of_below (S := fun j => Fp j ∨ j = w.heap.size + 1 + 1 + 1) (below4 w _ _ _ _)).trans hB.w).mono (fun j hj e => by
      rcases e with e | e
      · exact e
      · omega)⟩
    clear hB
    obtain ⟨⟨p0, p1, p2, p3, p4, p5⟩, q0, q1, q2, q3, q4, q5⟩ := cells6 k1; obtain ⟨⟨r0, r1, r2, r3, r4, r5⟩, t0, t1, t2, t3, t4, t5⟩ := cells6 k2; have T1 := Typed.of k1; have T2 := Typed.of k2; clear k1 k2
    go_wp2_with (go_at_call 46; refine (Beh.kind (S := S) (ad := ad) (P := P) (Fp := Fp) (k := k) (w := w) (by repeat (first | with_reducible exact hB4 | (with_reducible refine Beh.set ?_ hSt hSw ?_ ?_ _; rotate_left; (repeat (first | with_reducible exact T1 | with_reducible exact T2 | with_reducible refine Typed.set ?_ _ _)); (simp only []; omega))))).mono ?_; rintro e w5 ⟨rfl, rfl⟩)
    refine bodyPost_ret (v := ansVal k 0 0 (.slice (some ⟨w.heap.size + 1 + 1 + 1, 0, none⟩) n m)) (by simp [results, Tryd.results23, go_sem, ansVal, p0, p1, p2, p3, p4, p5]) rfl ?_
    refine ⟨_, _, rfl, ?_, ?_, Beh.two (S := S) (ad := ad) (k := k) (v := v) ?_⟩
    rotate_right
    · repeat (first | with_reducible exact hB4 | (with_reducible refine Beh.set ?_ hSt hSw ?_ ?_ _; rotate_left; (repeat (first | with_reducible exact T1 | with_reducible exact T2 | with_reducible refine Typed.set ?_ _ _)); (simp only []; omega)))
    · refine GotIn.bytes ?_ HRL.out hnm (by omega) hfit
      · repeat (first | with_reducible exact hG4 | (with_reducible refine GotIn.set ?_ ?_ _; rotate_left; (simp only []; omega)))
    · intro y hy
      cases hy
      refine ⟨by simp only []; omega, ?_⟩
      refine GotIn.lt (m := m) (r := r) ?_
      repeat (first | with_reducible exact hG4 | (with_reducible refine GotIn.set ?_ ?_ _; rotate_left; (simp only []; omega)))
end
end Go.Proofs.YtnkhfdnahnphdaaDoor
end
section
namespace Go.Proofs.YtnkhfdnahnphdaaDoor
open Go.ChangeShapes Go.WideShapes Go.ChangeAt Go.RowKit Go.Rd
open Go.Proofs.YtnkhfdnahnphdaaDoorW.PrintWords Go.Proofs.YtnkhfdnahnphdaaDoorW.PrintLast Go.Proofs.YtnkhfdnahnphdaaDoorW.PrintMore
set_option linter.unusedVariables false
set_option linter.unusedSectionVars false
theorem ErrIs.below {S : Nat} {ad : Nat → Addr} {w w' : World} {v : Value} {k : Int} (h : ErrIs S ad w v k) (hb : Below w.heap.size w w') : ErrIs S ad w' v k := by
  rcases h with h | h | h | h | h | ⟨b, op, nm, b2, rfl, hb1, ⟨c, t, hc⟩, hS2, h⟩
  · exact .inl h
  · exact .inr (.inl h)
  · exact .inr (.inr (.inl h))
  · exact .inr (.inr (.inr (.inl h)))
  · exact .inr (.inr (.inr (.inr (.inl h))))
  · exact .inr (.inr (.inr (.inr (.inr ⟨b, op, nm, b2, rfl, (hb.block _ (lt_of_heap hb1)).trans hb1, ⟨c, t, (hb.block _ (lt_of_heap hc)).trans hc⟩, hS2, h⟩))))
theorem infoStr : (Tryd.prog.info? 9).map (fun i => (i.zero, i.size, i.bytes)) = some (some (.string ⟨#[]⟩), 1, 16) := by kernel_rfl
set_option maxRecDepth 100000 in
set_option maxHeartbeats 1000000 in
theorem names_file (f : Nat) (n k : Int) (S : Nat) (ad : Nat → Addr) (hk : k ≠ 0) (w : World) (hl : ∀ n' : Int, Calls Tryd.prog 40 #[.pointer (some ⟨f, 0, none⟩), .int .i64 n'] w fun e w' => ∃ v, e = .returned (.tuple #[.slice none 0 0, v]) ∧ ErrIs S ad w' v k ∧ Below w.heap.size w w') :
    Calls Tryd.prog 42 #[.pointer (some ⟨f, 0, none⟩), .int .i64 n] w fun e w' => ∃ na nc v, e = .returned (.tuple #[.slice na 0 nc, v]) ∧ ErrIs S ad w' v k ∧ Below w.heap.size w w' := by
  have HL := Lib.hid hl
  obtain ⟨i0, hi, hzz⟩ := Option.map_eq_some_iff.1 infoStr
  simp only [Prod.mk.injEq] at hzz
  obtain ⟨Z, hZ, hZs, hmk⟩ := make_run (P := Tryd.prog) (t := 39) Tryd.underlying39 hi hzz.1 0 (by omega) (by unfold maxLen; omega)
  have hmk0 : ∀ W : World, (Instr.makeSlice 39 (.int .i64 0) (.int .i64 0)).run Tryd.prog W = .ok (.slice (some ⟨W.heap.size, 0, none⟩) 0 0) (W.alloc (.cells Z 9)) := hmk
  clear hl hmk hZ hZs hzz hi
  go_enter Tryd.func42, Tryd.ntmps42
  go_wp2_with (go_at_call 40; refine (HL.out _).mono ?_; rintro e w1 ⟨v, rfl, hE, hB⟩; obtain ⟨tv, av, rfl⟩ := hE.shape hk; have HE := Lib.hid hE; have HB := Lib.hid hB; clear hE hB)
  go_loopw [20] (fun i wr => i = .int .i64 0 ∧ ErrIs S ad wr (.iface tv (.pointer (some av))) k ∧ Below w.heap.size w wr) (fun _ _ => 0)
  case atStart => exact ⟨rfl, HE.out.below ((Below.refl _ _).alloc (Nat.le_refl _) _), HB.out.alloc HB.out.size _⟩
  case round =>
    obtain ⟨rfl, hE, hB⟩ := hrel
    go_wp2_with fail
    go_ret2
    exact ⟨_, _, _, rfl, hE, hB⟩
/-- A file behind a step that began at w. -/
def FileU (w : World) (B f fd : Nat) (dv : Value) (s : St) (W : World) : Prop := ∃ dv', HandS W f s fd ∧ DataIs W B fd dv' s.fd ∧ NewOr w dv dv'
theorem HandS.set {w : World} {f fd : Nat} {s : St} (h : HandS w f s fd) {p : Addr} {t : TypeId} (ht : Typed w p.block t) (h1 : t ≠ tFH) (u : Value) : HandS (w.setCell p u) f s fd := by
  obtain ⟨a, h, e⟩ := h
  obtain ⟨c, fr, hc⟩ := ht
  exact ⟨a, HandleIs.set h (blk_ne h hc h1.symm) u, e⟩
theorem DataIs.set {w : World} {B fd : Nat} {dv : Value} {d : FD} (hD : DataIs w B fd dv d) {p : Addr} {t : TypeId} (ht : Typed w p.block t) (h2 : t ≠ tFD) (h3 : t ≠ tU8) (u : Value) : DataIs (w.setCell p u) B fd dv d := by
  obtain ⟨c, fr, hc⟩ := ht
  refine ⟨setCell_keeps hD.1 (blk_ne hD.1 hc h2.symm) u, own_move hD.2.1 (fun k hk => Below.heap_setCell _ _ _ _ (fun e => ?_)), hD.2.2⟩
  obtain ⟨c', hc'⟩ := own_typed hD.2.1 k hk
  exact blk_ne hc' hc h3.symm e
theorem fileU_stab {w : World} {B f fd : Nat} {dv : Value} {s : St} (n : Nat) : Stab n (FileU w B f fd dv s) := by
  rintro W p x ⟨a, h1, h2, h3⟩ ht hn
  exact ⟨a, h1.set ht (by decide) x, h2.set ht (by decide) (by decide) x, h3⟩
theorem file_lt {w : World} {B f fd : Nat} {dv : Value} {s : St} (hH : HandS w f s fd) (hD : DataIs w B fd dv s.fd) : ∀ j, Feet f fd dv j → j < w.heap.size := by
  obtain ⟨c1, hc1⟩ := hH.block
  rintro j (e | e | e)
  · exact e ▸ lt_of_heap hc1
  · exact e ▸ lt_of_heap hD.1
  · exact own_lt hD.2.1 _ e
theorem file_low {w : World} {B f fd S : Nat} {dv : Value} {s : St} (a : S ≤ f) (b : S ≤ fd) (c : S ≤ B) (hD : DataIs w B fd dv s.fd) : ∀ j, Feet f fd dv j → S ≤ j := by
  rintro j (e | e | e)
  · omega
  · omega
  · have := own_base hD.2.1 j e; omega
theorem beh1 {w W w' : World} {B f fd S : Nat} {ad : Nat → Addr} {dv v : Value} {s : St} {k : Int} (hb : Below w.heap.size w W) (hlow : ∀ j, Feet f fd dv j → S ≤ j) (hS : Sents S W ad) (he : ErrIs S ad w' v k) (h : LaidH W w' f B fd s dv) : Beh S ad (FileU w B f fd dv s) (Feet f fd dv) k W v w' := by
  obtain ⟨a, h1, h2, h3, h4⟩ := h
  exact ⟨he, ⟨a, h1, h2, (show NewOr w dv dv from .inl rfl).trans hb.size h4⟩, hS.wrote h3 hlow, h3⟩
/-- What a step on an open file leaves. -/
def OnPost (w : World) (B f fd : Nat) (dv : Value) (D : Ans × St) (e : Ending) (w' : World) : Prop :=
  ∃ cs, e = .returned (.agg cs.toArray) ∧ ∃ dv', HandS w' f D.2 fd ∧ DataIs w' B fd dv' D.2.fd ∧ Wrote (Feet f fd dv) w w' ∧ NewOr w dv dv' ∧ AnsN w' (fun k => Feet f fd dv' k ∨ k < w.heap.size) D.1 cs
section
variable (B f fd S kk : Nat) (ad : Nat → Addr) (dv : Value) (s : St) (x : Sx) (w : World) (hS : Sents S w ad) (hSw : S ≤ w.heap.size) (hSf : S ≤ f) (hSfd : S ≤ fd) (hSB : S ≤ B) (hH : HandS w f s fd) (hD : DataIs w B fd dv s.fd) (hB : B ≤ w.heap.size) (hG : Good kk s) (hkk : kk ≤ 1000000) (hP : SpkP s x) (hO : OpU x) (hby : BytesIn w x.1.da x.1.dl x.1.dc x.2)
include hS hSw hSf hSfd hSB hH hD hB hG hkk hP hO hby
theorem on_post {e : Ending} {w' : World} (hN : (doF s x).1.data = []) {n off : Int} (hn : (doF s x).1.n = n) (hof : (doF s x).1.off = off) (h : e = .returned (ansVal (doF s x).1.e n off (.slice none 0 0)) ∧ FileU w B f fd dv (doF s x).2 w' ∧ Wrote (Feet f fd dv) w w') : OnPost w B f fd dv (doF s x) e w' := by
  obtain ⟨rfl, ⟨a, h1, h2, h3⟩, hw⟩ := h
  refine ⟨_, rfl, a, h1, h2, hw, h3, ?_⟩
  have := ansN_none w' (fun k => Feet f fd a k ∨ k < w.heap.size) (doF s x).1.e n off none 0
  rw [← hN, ← hn, ← hof] at this
  rw [← hn, ← hof]
  exact this
theorem on_seek_ok (hop : x.1.op = 16) : Calls Tryd.prog 23 #[.pointer (some ⟨f, 0, none⟩), x.1.val] w (OnPost w B f fd dv (doF s x)) := by
  have h12 : x.1.op ≠ 12 := by omega
  have hoff : -1152921504606846976 ≤ x.1.off ∧ x.1.off ≤ 1152921504606846976 := by have := hP.fits (by omega) (by omega); omega
  refine (o23_seek f S ad _ _ (doF s x).1.e x.1 w (fileU_stab (w := w) (dv := dv) (s := (doF s x).2) (B := B) (f := f) (fd := fd) w.heap.size) hSw (file_lt hH hD) (doF s x).1.off hop (fun W hb => ?_)).mono (fun e w' h => on_post B f fd S kk ad dv s x w hS hSw hSf hSfd hSB hH hD hB hG hkk hP hO hby (doF_nodata h12) (doF_n0 (by omega) (by omega) hO) rfl h)
  have hSW := hS.wrote (F := fun _ => False) (Wrote.of_below hb) (fun _ h => h.elim)
  refine (fl_seek S B f fd ad s x dv W hSW (hH.below hb) (hD.below hb) (HandS.bnd hG hkk) hop hoff).mono ?_
  rintro e w' ⟨v, rfl, h1, h2⟩
  exact ⟨v, rfl, beh1 hb (file_low hSf hSfd hSB hD) hSW h1 h2⟩
theorem on_trunc_ok (hop : x.1.op = 17) : Calls Tryd.prog 23 #[.pointer (some ⟨f, 0, none⟩), x.1.val] w (OnPost w B f fd dv (doF s x)) := by
  have h12 : x.1.op ≠ 12 := by omega
  have hoff : x.1.off ≤ 4294967296 := by have := hP.fits (by omega) (by omega); have := hP.trunc hop; omega
  refine (o23_trunc f S ad _ _ (doF s x).1.e x.1 w (fileU_stab (w := w) (dv := dv) (s := (doF s x).2) (B := B) (f := f) (fd := fd) w.heap.size) hSw (file_lt hH hD) hop (fun W hb => ?_)).mono (fun e w' h => on_post B f fd S kk ad dv s x w hS hSw hSf hSfd hSB hH hD hB hG hkk hP hO hby (doF_nodata h12) (doF_n0 (by omega) (by omega) hO) (doF_off0 (by omega)) h)
  have hSW := hS.wrote (F := fun _ => False) (Wrote.of_below hb) (fun _ h => h.elim)
  refine (fl_trunc S B f fd ad s x dv W hSW (hH.below hb) (hD.below hb) (HandS.bnd hG hkk) hop (Nat.le_trans hB hb.size) (Nat.le_trans hSw hb.size) hoff).mono ?_
  rintro e w' ⟨v, rfl, h1, h2⟩
  exact ⟨v, rfl, beh1 hb (file_low hSf hSfd hSB hD) hSW h1 h2⟩
theorem on_close_ok (hop : x.1.op = 18) : Calls Tryd.prog 23 #[.pointer (some ⟨f, 0, none⟩), x.1.val] w (OnPost w B f fd dv (doF s x)) := by
  have h12 : x.1.op ≠ 12 := by omega
  refine (o23_close f S ad _ _ (doF s x).1.e x.1 w (fileU_stab (w := w) (dv := dv) (s := (doF s x).2) (B := B) (f := f) (fd := fd) w.heap.size) hSw (file_lt hH hD) hop (fun W hb => ?_)).mono (fun e w' h => on_post B f fd S kk ad dv s x w hS hSw hSf hSfd hSB hH hD hB hG hkk hP hO hby (doF_nodata h12) (doF_n0 (by omega) (by omega) hO) (doF_off0 (by omega)) h)
  have hSW := hS.wrote (F := fun _ => False) (Wrote.of_below hb) (fun _ h => h.elim)
  refine (fl_close S B f fd ad s x dv W hSW (hH.below hb) (hD.below hb) (HandS.bnd hG hkk) hop).mono ?_
  rintro e w' ⟨v, rfl, h1, h2⟩
  exact ⟨v, rfl, beh1 hb (file_low hSf hSfd hSB hD) hSW h1 h2⟩
theorem on_sync_ok (hop : x.1.op = 23) : Calls Tryd.prog 23 #[.pointer (some ⟨f, 0, none⟩), x.1.val] w (OnPost w B f fd dv (doF s x)) := by
  have h12 : x.1.op ≠ 12 := by omega
  refine (o23_sync f S ad _ _ (doF s x).1.e x.1 w (fileU_stab (w := w) (dv := dv) (s := (doF s x).2) (B := B) (f := f) (fd := fd) w.heap.size) hSw (file_lt hH hD) hop (fun W hb => ?_)).mono (fun e w' h => on_post B f fd S kk ad dv s x w hS hSw hSf hSfd hSB hH hD hB hG hkk hP hO hby (doF_nodata h12) (doF_n0 (by omega) (by omega) hO) (doF_off0 (by omega)) h)
  have hSW := hS.wrote (F := fun _ => False) (Wrote.of_below hb) (fun _ h => h.elim)
  refine (fl_sync S B f fd ad s x dv W hSW (hH.below hb) (hD.below hb) (HandS.bnd hG hkk) hop).mono ?_
  rintro e w' ⟨v, rfl, h1, h2⟩
  exact ⟨v, rfl, beh1 hb (file_low hSf hSfd hSB hD) hSW h1 h2⟩
theorem on_write_ok (hop : x.1.op = 14) : Calls Tryd.prog 23 #[.pointer (some ⟨f, 0, none⟩), x.1.val] w (OnPost w B f fd dv (doF s x)) := by
  have h12 : x.1.op ≠ 12 := by omega
  have hdl : x.1.dl ≤ 4294967296 := by have := hP.dl; omega
  refine (o23_write f S ad _ _ (doF s x).1.e x.1 w (fileU_stab (w := w) (dv := dv) (s := (doF s x).2) (B := B) (f := f) (fd := fd) w.heap.size) hSw (file_lt hH hD) (doF s x).1.n x.2 hop hby hdl (fun W A c hb hbA hnA => ?_)).mono (fun e w' h => on_post B f fd S kk ad dv s x w hS hSw hSf hSfd hSB hH hD hB hG hkk hP hO hby (doF_nodata h12) rfl (doF_off0 (by omega)) h)
  have hSW := hS.wrote (F := fun _ => False) (Wrote.of_below hb) (fun _ h => h.elim)
  refine (fl_write S B f fd ad s x dv W hSW (hH.below hb) (hD.below hb) (HandS.bnd hG hkk) hop (fun _ _ => by have := hP.write hop; omega) (Nat.le_trans hB hb.size) (Nat.le_trans hSw hb.size) A _ c hbA hdl).mono ?_
  rintro e w' ⟨v, rfl, h1, h2⟩
  exact ⟨v, rfl, beh1 hb (file_low hSf hSfd hSB hD) hSW h1 h2⟩
theorem on_write_at_ok (hop : x.1.op = 15) : Calls Tryd.prog 23 #[.pointer (some ⟨f, 0, none⟩), x.1.val] w (OnPost w B f fd dv (doF s x)) := by
  have h12 : x.1.op ≠ 12 := by omega
  have hdl : x.1.dl ≤ 4294967296 := by have := hP.dl; omega
  refine (o23_write_at f S ad _ _ (doF s x).1.e x.1 w (fileU_stab (w := w) (dv := dv) (s := (doF s x).2) (B := B) (f := f) (fd := fd) w.heap.size) hSw (file_lt hH hD) (doF s x).1.n x.2 hop hby hdl (fun W A c hb hbA hnA => ?_)).mono (fun e w' h => on_post B f fd S kk ad dv s x w hS hSw hSf hSfd hSB hH hD hB hG hkk hP hO hby (doF_nodata h12) rfl (doF_off0 (by omega)) h)
  have hSW := hS.wrote (F := fun _ => False) (Wrote.of_below hb) (fun _ h => h.elim)
  refine (fl_write_at S B f fd ad s x dv W hSW (hH.below hb) (hD.below hb) (HandS.bnd hG hkk) hop (fun _ _ => by have := hP.writeAt hop; omega) (Nat.le_trans hB hb.size) (Nat.le_trans hSw hb.size) hSf A _ c hbA (fun y hy e => by have := hnA y hy; have := file_lt hH hD f (.inl rfl); omega) hdl).mono ?_
  rintro e w' ⟨v, rfl, h1, h2⟩
  exact ⟨v, rfl, beh1 hb (file_low hSf hSfd hSB hD) hSW h1 h2⟩
theorem on_list_ok (hop : x.1.op = 19) : Calls Tryd.prog 23 #[.pointer (some ⟨f, 0, none⟩), x.1.val] w (OnPost w B f fd dv (doF s x)) := by
  have h12 : x.1.op ≠ 12 := by omega
  refine (o23_list f S ad _ _ (doF s x).1.e x.1 w (fileU_stab (w := w) (dv := dv) (s := (doF s x).2) (B := B) (f := f) (fd := fd) w.heap.size) hSw (file_lt hH hD) hop (fun W hb => ?_)).mono (fun e w' h => on_post B f fd S kk ad dv s x w hS hSw hSf hSfd hSB hH hD hB hG hkk hP hO hby (doF_nodata h12) (doF_n0 (by omega) (by omega) hO) (doF_off0 (by omega)) h)
  have hSW := hS.wrote (F := fun _ => False) (Wrote.of_below hb) (fun _ h => h.elim)
  refine (fl_list S B f fd ad s x dv W hSW (hH.below hb) (hD.below hb) (HandS.bnd hG hkk) (.inl hop) _ (Nat.le_trans hSw hb.size)).mono ?_
  rintro e w' ⟨v, rfl, ⟨h1, h2⟩, h3⟩
  exact ⟨v, rfl, beh1 hb (file_low hSf hSfd hSB hD) hSW h1 h2⟩
theorem on_names_ok (hop : x.1.op = 20) : Calls Tryd.prog 23 #[.pointer (some ⟨f, 0, none⟩), x.1.val] w (OnPost w B f fd dv (doF s x)) := by
  have h12 : x.1.op ≠ 12 := by omega
  have hD8 : doF s x = (⟨8, 0, 0, []⟩, s) := by unfold doF; simp [hop]
  have he : (doF s x).1.e ≠ 0 := by rw [hD8]; simp
  refine (o23_names f S ad _ _ (doF s x).1.e x.1 w (fileU_stab (w := w) (dv := dv) (s := (doF s x).2) (B := B) (f := f) (fd := fd) w.heap.size) hSw (file_lt hH hD) (fun na nc => True) hop (fun W hb => ?_)).mono (fun e w' h => ?_)
  · have hSW := hS.wrote (F := fun _ => False) (Wrote.of_below hb) (fun _ h => h.elim)
    refine (names_file f _ (doF s x).1.e S ad he W (fun n' => (fl_list S B f fd ad s x dv W hSW (hH.below hb) (hD.below hb) (HandS.bnd hG hkk) (.inr hop) n' (Nat.le_trans hSw hb.size)).mono ?_)).mono ?_
    · rintro e w' ⟨v, rfl, ⟨h1, h2⟩, h3⟩
      exact ⟨v, rfl, h1, h3⟩
    · rintro e w' ⟨na, nc, v, rfl, h1, h3⟩
      refine ⟨v, na, nc, rfl, trivial, beh1 hb (file_low hSf hSfd hSB hD) hSW h1 ?_⟩
      rw [hD8]
      exact .same (hH.below hb) (hD.below hb) h3
  · obtain ⟨na, nc, rfl, _, ⟨a, h1, h2, h3⟩, hw⟩ := h
    refine ⟨_, rfl, a, h1, h2, hw, h3, ?_⟩
    have := ansN_none w' (fun k => Feet f fd a k ∨ k < w.heap.size) (doF s x).1.e 0 0 na nc
    rw [hD8] at this ⊢
    exact this
theorem on_read_ok (hop : x.1.op = 12) : Calls Tryd.prog 23 #[.pointer (some ⟨f, 0, none⟩), x.1.val] w (OnPost w B f fd dv (doF s x)) := by
  obtain ⟨m, hm⟩ : ∃ m : Nat, x.1.n = (m : Int) := ⟨x.1.n.toNat, by have := hP.fits (by omega) (by omega); omega⟩
  have hm2 : m ≤ 4096 := by have := hP.fits (by omega) (by omega); omega
  have hat : s.cl = false → 0 ≤ s.at_ := fun hc => by
    rcases hP.read hop with e | e
    · rw [hc] at e; cases e
    · exact e
  have hD0 : (doF s x).1.n = 0 := doF_n0 (by omega) (by omega) hO
  have hD1 : (doF s x).1.off = 0 := doF_off0 (by omega)
  have hlen : (doF s x).1.data.length ≤ m := by
    unfold doF
    simp only [hop, show ¬ ((12 : Int) = 18) by decide, show ¬ ((12 : Int) = 23) by decide, show ¬ ((12 : Int) = 19 ∨ (12 : Int) = 20) by decide, if_false, if_true]
    split
    · simp
    · have := rdB_length_le s x.1.n
      simp only; omega
  have hfit : ∀ c ∈ (doF s x).1.data, 0 ≤ c ∧ c ≤ 255 := by
    unfold doF
    simp only [hop, show ¬ ((12 : Int) = 18) by decide, show ¬ ((12 : Int) = 23) by decide, show ¬ ((12 : Int) = 19 ∨ (12 : Int) = 20) by decide, if_false, if_true]
    split
    · simp
    · intro c hc
      unfold rdB at hc
      split at hc
      · simp at hc
      · unfold readBs at hc
        exact hG.fit c (List.mem_of_mem_drop (List.mem_of_mem_take hc))
  have hst : Stab w.heap.size (fun W => HandS W f (doF s x).2 fd ∧ DataIs W B fd dv (doF s x).2.fd) := fun W p u h ht hn => ⟨h.1.set ht (by decide) u, h.2.set ht (by decide) (by decide) u⟩
  refine (o23_read f S ad (fun W => HandS W f (doF s x).2 fd ∧ DataIs W B fd dv (doF s x).2.fd) (Feet f fd dv) (doF s x).1.e x.1 w hst hSw (file_lt hH hD) m _ (doF s x).1.data hop hm (by omega) rfl hlen hfit (fun W g cur hb hgw hcur hg => ?_)).mono ?_
  · have hSW := hS.wrote (F := fun _ => False) (Wrote.of_below hb) (fun _ h => h.elim)
    refine (fl_read S B f fd ad s x dv W hSW (hH.below hb) (hD.below hb) (HandS.bnd hG hkk) hop hat g m hm (by omega) cur hcur hg (fun k hk => by have := own_lt hD.2.1 k hk; omega)).mono ?_
    rintro e w' ⟨v, rfl, h1, h2, h3, h4, h5⟩
    refine ⟨v, rfl, h4, h1, ⟨h2, h3⟩, hSW.wrote h5 ?_, h5.mono (fun j _ e => e.elim (fun e => .inl (.inl e)) .inr)⟩
    rintro j (e | e)
    · omega
    · omega
  · rintro e w' ⟨A, c, rfl, hbA, hnA, ⟨h1, h2⟩, hw⟩
    refine ⟨_, rfl, dv, h1, h2, hw, .inl rfl, A, c, none, 0, by rw [hD0, hD1], hbA, fun y hy => ⟨?_, (hnA y hy).2⟩⟩
    have := (hnA y hy).1
    rintro (h | h)
    · have := file_lt hH hD _ h; omega
    · omega
/-- Any step. -/
theorem on_ok : Calls Tryd.prog 23 #[.pointer (some ⟨f, 0, none⟩), x.1.val] w (OnPost w B f fd dv (doF s x)) := by
  have h : x.1.op = 12 ∨ x.1.op = 14 ∨ x.1.op = 15 ∨ x.1.op = 16 ∨ x.1.op = 17 ∨ x.1.op = 18 ∨ x.1.op = 19 ∨ x.1.op = 20 ∨ x.1.op = 23 := by
    obtain ⟨o1, o2, o3, o4, o5⟩ := hO
    omega
  rcases h with h | h | h | h | h | h | h | h | h
  · exact on_read_ok B f fd S kk ad dv s x w hS hSw hSf hSfd hSB hH hD hB hG hkk hP hO hby h
  · exact on_write_ok B f fd S kk ad dv s x w hS hSw hSf hSfd hSB hH hD hB hG hkk hP hO hby h
  · exact on_write_at_ok B f fd S kk ad dv s x w hS hSw hSf hSfd hSB hH hD hB hG hkk hP hO hby h
  · exact on_seek_ok B f fd S kk ad dv s x w hS hSw hSf hSfd hSB hH hD hB hG hkk hP hO hby h
  · exact on_trunc_ok B f fd S kk ad dv s x w hS hSw hSf hSfd hSB hH hD hB hG hkk hP hO hby h
  · exact on_close_ok B f fd S kk ad dv s x w hS hSw hSf hSfd hSB hH hD hB hG hkk hP hO hby h
  · exact on_list_ok B f fd S kk ad dv s x w hS hSw hSf hSfd hSB hH hD hB hG hkk hP hO hby h
  · exact on_names_ok B f fd S kk ad dv s x w hS hSw hSf hSfd hSB hH hD hB hG hkk hP hO hby h
  · exact on_sync_ok B f fd S kk ad dv s x w hS hSw hSf hSfd hSB hH hD hB hG hkk hP hO hby h
end
end Go.Proofs.YtnkhfdnahnphdaaDoor
end
section
namespace Go.Proofs.YtnkhfdnahnphdaaDoor
open Go.ChangeShapes Go.WideShapes Go.ChangeAt Go.RowKit Go.Rd
open Go.Proofs.YtnkhfdnahnphdaaDoorW.PrintWords Go.Proofs.YtnkhfdnahnphdaaDoorW.PrintLast Go.Proofs.YtnkhfdnahnphdaaDoorW.PrintMore
set_option linter.unusedVariables false
set_option linter.unusedSectionVars false
set_option linter.unusedSimpArgs false
set_option maxRecDepth 100000 in
set_option maxHeartbeats 2000000 in
theorem same_answer (a : Ans) (A1 : Option Addr) (k1 : Nat) (na1 : Option Addr) (nc1 : Nat) (A2 : Option Addr) (k2 : Nat) (na2 : Option Addr) (nc2 : Nat) (w : World) (h1 : BytesIn w A1 a.data.length k1 a.data) (h2 : BytesIn w A2 a.data.length k2 a.data) :
    Calls Tryd.prog 31 #[.agg #[.int .i64 a.e, .int .i64 a.n, .int .i64 a.off, .slice A1 a.data.length k1, .slice na1 0 nc1, .slice none 0 0], .agg #[.int .i64 a.e, .int .i64 a.n, .int .i64 a.off, .slice A2 a.data.length k2, .slice na2 0 nc2, .slice none 0 0]] w fun e w' => e = .returned (.bool true) ∧ Below w.heap.size w w' := by
  obtain ⟨ae, an, aoff, dat⟩ := a
  simp only at h1 h2 ⊢
  have hb2 : Below w.heap.size w ((w.alloc (.cells #[.int .i64 ae, .int .i64 an, .int .i64 aoff, .slice A1 dat.length k1, .slice na1 0 nc1, .slice none 0 0] 42)).alloc (.cells #[.int .i64 ae, .int .i64 an, .int .i64 aoff, .slice A2 dat.length k2, .slice na2 0 nc2, .slice none 0 0] 42)) := ((Below.refl _ _).alloc (Nat.le_refl _) _).alloc (by simp) _
  have z1 := bytes_string (h1.below hb2)
  have z2 := bytes_string (h2.below hb2)
  have n1 : (ae != ae) = false := by simp
  have n2 : (an != an) = false := by simp
  have n3 : (aoff != aoff) = false := by simp
  generalize dat.length = dl at *
  clear h1 h2
  go_enter Tryd.func31, Tryd.ntmps31
  go_wp2_with fail
  go_loopw [56] (fun i wr => i = .int .i64 0 ∧ wr = ((w.alloc (.cells #[.int .i64 ae, .int .i64 an, .int .i64 aoff, .slice A1 dl k1, .slice na1 0 nc1, .slice none 0 0] 42)).alloc (.cells #[.int .i64 ae, .int .i64 an, .int .i64 aoff, .slice A2 dl k2, .slice na2 0 nc2, .slice none 0 0] 42))) (fun _ _ => 0)
  case atStart => exact ⟨rfl, rfl⟩
  case round =>
    obtain ⟨rfl, rfl⟩ := hrel
    go_wp2_with fail
    go_loopw [74] (fun i wr => i = .int .i64 0 ∧ wr = ((w.alloc (.cells #[.int .i64 ae, .int .i64 an, .int .i64 aoff, .slice A1 dl k1, .slice na1 0 nc1, .slice none 0 0] 42)).alloc (.cells #[.int .i64 ae, .int .i64 an, .int .i64 aoff, .slice A2 dl k2, .slice na2 0 nc2, .slice none 0 0] 42))) (fun _ _ => 0)
    case atStart => exact ⟨rfl, rfl⟩
    case round =>
      obtain ⟨rfl, rfl⟩ := hrel
      go_wp2_with fail
      go_ret
      exact ⟨rfl, hb2⟩
set_option maxRecDepth 100000 in
set_option maxHeartbeats 4000000 in
theorem same_answers (l : List Ans) (v1 v2 : Value) (B1 B2 : Nat) (w : World) (hO1 : OwnRow (AnsN w (fun _ => False)) 42 6 w B1 v1 l) (hO2 : OwnRow (AnsN w (fun _ => False)) 42 6 w B2 v2 l) (hl : l.length ≤ 1000000) :
    Calls Tryd.prog 18 #[v1, v2] w fun e w' => e = .returned (.bool true) ∧ Below w.heap.size w w' := by
  obtain ⟨Av, cv, rfl⟩ : ∃ Av cv, v1 = .slice Av l.length cv := by
    obtain ⟨inner, ho, _⟩ := hO1
    exact own_slice ho
  obtain ⟨Aw, cw, rfl⟩ : ∃ Aw cw, v2 = .slice Aw l.length cw := by
    obtain ⟨inner, ho, _⟩ := hO2
    exact own_slice ho
  have HO1 := Lib.hid hO1
  have HO2 := Lib.hid hO2
  clear hO1 hO2
  have e0 : ((l.length : Int) != (l.length : Int)) = false := by simp
  go_enter Tryd.func18, Tryd.ntmps18
  go_wp2_with fail
  go_loopw [13] (fun i wr => ∃ k : Nat, k ≤ l.length ∧ i = .int .i64 k ∧ Below w.heap.size w wr) (fun i _ => l.length - (intOf i).toNat)
  case atStart => exact ⟨0, Nat.zero_le _, rfl, Below.refl _ _⟩
  case round =>
    obtain ⟨k, hk, rfl, hB⟩ := hrel
    by_cases hlt : k < l.length
    · obtain ⟨g1, d1, ev1, hlc1, hgl1, hcells1⟩ := ansN_cells HO1.out (by omega)
      obtain ⟨g2, d2, ev2, hlc2, hgl2, hcells2⟩ := ansN_cells HO2.out (by omega)
      injection ev1 with ev1 _ ev1'
      subst ev1 ev1'
      injection ev2 with ev2 _ ev2'
      subst ev2 ev2'
      obtain ⟨a, hak⟩ : ∃ a, l[k]? = some a := ⟨_, List.getElem?_eq_getElem hlt⟩
      obtain ⟨Aa, ca, na, nc, ⟨e0, e1, e2, e3, e4, e5⟩, hba⟩ := hcells1 k a hak
      obtain ⟨Ab, cb, nb, nd, ⟨f0, f1, f2, f3, f4, f5⟩, hbb⟩ := hcells2 k a hak
      have x0 := (hB.cell (p := ⟨g1, k * 6, none⟩) hgl1).trans e0
      have x1 := (hB.cell (p := ⟨g1, k * 6 + 1, none⟩) hgl1).trans e1
      have x2 := (hB.cell (p := ⟨g1, k * 6 + 2, none⟩) hgl1).trans e2
      have x3 := (hB.cell (p := ⟨g1, k * 6 + 3, none⟩) hgl1).trans e3
      have x4 := (hB.cell (p := ⟨g1, k * 6 + 4, none⟩) hgl1).trans e4
      have x5 := (hB.cell (p := ⟨g1, k * 6 + 5, none⟩) hgl1).trans e5
      have y0 := (hB.cell (p := ⟨g2, k * 6, none⟩) hgl2).trans f0
      have y1 := (hB.cell (p := ⟨g2, k * 6 + 1, none⟩) hgl2).trans f1
      have y2 := (hB.cell (p := ⟨g2, k * 6 + 2, none⟩) hgl2).trans f2
      have y3 := (hB.cell (p := ⟨g2, k * 6 + 3, none⟩) hgl2).trans f3
      have y4 := (hB.cell (p := ⟨g2, k * 6 + 4, none⟩) hgl2).trans f4
      have y5 := (hB.cell (p := ⟨g2, k * 6 + 5, none⟩) hgl2).trans f5
      have hsa := same_answer a Aa ca na nc Ab cb nb nd wr.drew ((hba.below hB).below (pw_below_drewN (Below.refl _ _) 1)) ((hbb.below hB).below (pw_below_drewN (Below.refl _ _) 1))
      have HSA := Lib.hid hsa
      clear e0 e1 e2 e3 e4 e5 f0 f1 f2 f3 f4 f5 hba hbb hcells1 hcells2 hsa hak
      go_upto_region 6 with fail
      refine wp_region_held_drew (S := fun W => (W.cell? ⟨g1, k * 6, none⟩ = some (.int .i64 a.e) ∧ W.cell? ⟨g1, k * 6 + 1, none⟩ = some (.int .i64 a.n) ∧ W.cell? ⟨g1, k * 6 + 2, none⟩ = some (.int .i64 a.off) ∧ W.cell? ⟨g1, k * 6 + 3, none⟩ = some (.slice Aa a.data.length ca) ∧ W.cell? ⟨g1, k * 6 + 4, none⟩ = some (.slice na 0 nc) ∧ W.cell? ⟨g1, k * 6 + 5, none⟩ = some (.slice none 0 0)) ∧ W.cell? ⟨g2, k * 6, none⟩ = some (.int .i64 a.e) ∧ W.cell? ⟨g2, k * 6 + 1, none⟩ = some (.int .i64 a.n) ∧ W.cell? ⟨g2, k * 6 + 2, none⟩ = some (.int .i64 a.off) ∧ W.cell? ⟨g2, k * 6 + 3, none⟩ = some (.slice Ab a.data.length cb) ∧ W.cell? ⟨g2, k * 6 + 4, none⟩ = some (.slice nb 0 nd) ∧ W.cell? ⟨g2, k * 6 + 5, none⟩ = some (.slice none 0 0)) (by kernel_rfl) ⟨⟨x0, x1, x2, x3, x4, x5⟩, y0, y1, y2, y3, y4, y5⟩ (fun hHeld => ?_)
      refine wpAnyH_take (i := 0) (v := ?_) rfl (by kernel_rfl) (by kernel_rfl) (by kernel_rfl) (fun _ _ _ h => h) (Or.inl ⟨by rfl, ?_⟩) (by assumption) ?_
      rotate_left
      · (intro w hSw; (try dsimp only at hSw); go_split_ands; go_simp) <;> with_reducible rfl
      (try simp only [Act.put, List.setIfInBounds_toArray, List.set_cons_zero, List.set_cons_succ, List.getElem_toArray, List.getElem_cons_succ, List.getElem_cons_zero])
      refine wpAnyH_take (i := 1) (v := ?_) rfl (by kernel_rfl) (by kernel_rfl) (by kernel_rfl) (fun _ _ _ h => h) (Or.inl ⟨by rfl, ?_⟩) (by assumption) ?_
      rotate_left
      · (intro w hSw; (try dsimp only at hSw); go_split_ands; go_simp) <;> with_reducible rfl
      (try simp only [Act.put, List.setIfInBounds_toArray, List.set_cons_zero, List.set_cons_succ, List.getElem_toArray, List.getElem_cons_succ, List.getElem_cons_zero])
      refine wpAnyH_take (i := 2) (v := ?_) rfl (by kernel_rfl) (by kernel_rfl) (by kernel_rfl) (fun _ _ _ h => h) (Or.inl ⟨by rfl, ?_⟩) (by assumption) ?_
      rotate_left
      · (intro w hSw; (try dsimp only at hSw); go_split_ands; go_simp) <;> with_reducible rfl
      (try simp only [Act.put, List.setIfInBounds_toArray, List.set_cons_zero, List.set_cons_succ, List.getElem_toArray, List.getElem_cons_succ, List.getElem_cons_zero])
      refine wpAnyH_take (i := 3) (v := ?_) rfl (by kernel_rfl) (by kernel_rfl) (by kernel_rfl) (fun _ _ _ h => h) (Or.inl ⟨by rfl, ?_⟩) (by assumption) ?_
      rotate_left
      · (intro w hSw; (try dsimp only at hSw); go_split_ands; go_simp) <;> with_reducible rfl
      (try simp only [Act.put, List.setIfInBounds_toArray, List.set_cons_zero, List.set_cons_succ, List.getElem_toArray, List.getElem_cons_succ, List.getElem_cons_zero])
      refine wpAnyH_take (i := 4) (v := ?_) rfl (by kernel_rfl) (by kernel_rfl) (by kernel_rfl) (fun _ _ _ h => h) (Or.inl ⟨by rfl, ?_⟩) (by assumption) ?_
      rotate_left
      · (intro w hSw; (try dsimp only at hSw); go_split_ands; go_simp) <;> with_reducible rfl
      (try simp only [Act.put, List.setIfInBounds_toArray, List.set_cons_zero, List.set_cons_succ, List.getElem_toArray, List.getElem_cons_succ, List.getElem_cons_zero])
      refine wpAnyH_take (i := 5) (v := ?_) rfl (by kernel_rfl) (by kernel_rfl) (by kernel_rfl) (fun _ _ _ h => h) (Or.inl ⟨by rfl, ?_⟩) (by assumption) ?_
      rotate_left
      · (intro w hSw; (try dsimp only at hSw); go_split_ands; go_simp) <;> with_reducible rfl
      (try simp only [Act.put, List.setIfInBounds_toArray, List.set_cons_zero, List.set_cons_succ, List.getElem_toArray, List.getElem_cons_succ, List.getElem_cons_zero])
      refine wpAnyH_take (i := 6) (v := ?_) rfl (by kernel_rfl) (by kernel_rfl) (by kernel_rfl) (fun _ _ _ h => h) (Or.inl ⟨by rfl, ?_⟩) (by assumption) ?_
      rotate_left
      · (intro w hSw; (try dsimp only at hSw); go_split_ands; go_simp) <;> with_reducible rfl
      (try simp only [Act.put, List.setIfInBounds_toArray, List.set_cons_zero, List.set_cons_succ, List.getElem_toArray, List.getElem_cons_succ, List.getElem_cons_zero])
      refine wpAnyH_take (i := 7) (v := ?_) rfl (by kernel_rfl) (by kernel_rfl) (by kernel_rfl) (fun _ _ _ h => h) (Or.inl ⟨by rfl, ?_⟩) (by assumption) ?_
      rotate_left
      · (intro w hSw; (try dsimp only at hSw); go_split_ands; go_simp) <;> with_reducible rfl
      (try simp only [Act.put, List.setIfInBounds_toArray, List.set_cons_zero, List.set_cons_succ, List.getElem_toArray, List.getElem_cons_succ, List.getElem_cons_zero])
      refine wpAnyH_ready (rs := [8]) (by kernel_rfl) (by simp) ?_
      refine AllReadyH.cons rfl (fun K hK => ?_) AllReadyH.nil
      go_simp
      go_at_call 31
      refine HSA.out.mono ?_
      rintro e w2 ⟨rfl, hB2⟩
      have hg1 : g1 < wr.heap.size := Nat.lt_of_lt_of_le hgl1 hB.size
      have hg2 : g2 < wr.heap.size := Nat.lt_of_lt_of_le hgl2 hB.size
      refine hK.out _ _ ⟨⟨(hB2.cell (p := ⟨g1, k * 6, none⟩) hg1).trans x0, (hB2.cell (p := ⟨g1, k * 6 + 1, none⟩) hg1).trans x1, (hB2.cell (p := ⟨g1, k * 6 + 2, none⟩) hg1).trans x2, (hB2.cell (p := ⟨g1, k * 6 + 3, none⟩) hg1).trans x3, (hB2.cell (p := ⟨g1, k * 6 + 4, none⟩) hg1).trans x4, (hB2.cell (p := ⟨g1, k * 6 + 5, none⟩) hg1).trans x5⟩, (hB2.cell (p := ⟨g2, k * 6, none⟩) hg2).trans y0, (hB2.cell (p := ⟨g2, k * 6 + 1, none⟩) hg2).trans y1, (hB2.cell (p := ⟨g2, k * 6 + 2, none⟩) hg2).trans y2, (hB2.cell (p := ⟨g2, k * 6 + 3, none⟩) hg2).trans y3, (hB2.cell (p := ⟨g2, k * 6 + 4, none⟩) hg2).trans y4, (hB2.cell (p := ⟨g2, k * 6 + 5, none⟩) hg2).trans y5⟩ (fun hHeld => ?_)
      clear hK K
      (try simp only [Act.put, List.setIfInBounds_toArray, List.set_cons_zero, List.set_cons_succ, List.getElem_toArray, List.getElem_cons_succ, List.getElem_cons_zero])
      refine wpAnyH_take (i := 9) (v := ?_) rfl (by kernel_rfl) (by kernel_rfl) (by kernel_rfl) (fun _ _ _ h => h) (Or.inl ⟨by rfl, ?_⟩) (by assumption) ?_
      rotate_left
      · (intro w hSw; (try dsimp only at hSw); go_split_ands; go_simp) <;> with_reducible rfl
      (try simp only [Act.put, List.setIfInBounds_toArray, List.set_cons_zero, List.set_cons_succ, List.getElem_toArray, List.getElem_cons_succ, List.getElem_cons_zero])
      refine wpAnyH_done (by kernel_rfl) ?_ _
      have hB3 : Below w.heap.size w w2 := hB.trans (Below.mono (w := wr) (w' := w2) ⟨hB2.os, hB2.tape, hB2.output, hB2.size, hB2.block⟩ hB.size)
      clear hHeld x0 x1 x2 x3 x4 x5 y0 y1 y2 y3 y4 y5
      go_wp2_with fail
      go_roundw
      case rel => exact ⟨k + 1, by omega, by go_num, hB3⟩
      case measure => simp [intOf]; omega
    · obtain rfl : k = l.length := by omega
      go_wp2_with fail
      go_ret
      exact ⟨rfl, hB⟩
end Go.Proofs.YtnkhfdnahnphdaaDoor
end
