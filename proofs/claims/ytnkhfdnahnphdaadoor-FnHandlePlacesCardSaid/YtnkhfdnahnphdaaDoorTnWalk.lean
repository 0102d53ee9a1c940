/- The walk of Truncate where it refuses. -/
import Derived.Test.YtnkhfdnahnphdaaDoorTrWalk
import Derived.Test.YtnkhfdnahnphdaaDoorErWalk
namespace Go.Proofs.YtnkhfdnahnphdaaDoor
open Go.ChangeShapes Go.WideShapes Go.ChangeAt Go.RowKit Go.Rd
open Go.Proofs.YtnkhfdnahnphdaaDoorW.PrintWords Go.Proofs.YtnkhfdnahnphdaaDoorW.PrintLast Go.Proofs.YtnkhfdnahnphdaaDoorW.PrintMore

theorem new_err (s : ByteArray) (w : World) : Calls Tryd.prog 67 #[.string s] w fun e w' => ∃ b, e = .returned (.iface 149 (.pointer (some ⟨b, 0, none⟩))) ∧ w.heap.size ≤ b ∧ (∃ c t, w'.heap[b]? = some (.cells c t (0, 0))) ∧ Below w.heap.size w w' := by
  go_enter Tryd.func67, Tryd.ntmps67
  go_wp2
  go_ret
  exact ⟨_, rfl, Nat.le_refl _, ⟨_, _, alloc_new _ _⟩, (Below.refl _ _).alloc (Nat.le_refl _) _⟩

theorem trunc_neg (f B fd : Nat) (k x rdc : Int) (ad : Nat → Addr) (w : World) (hS : Sents B w ad) (hH : HandleIs w f ⟨x, rdc, false, false, fd⟩) (hk : k < 0) :
    Calls Tryd.prog 38 #[.pointer (some ⟨f, 0, none⟩), .int .i64 k] w fun e w' => e = .returned (.iface 149 (.pointer (some (ad 3)))) ∧ w = w' := by
  have c2 := (cell_of hH 2).trans rfl
  have c3 := (cell_of hH 3).trans rfl
  have s3 := hS.cell 3 (by decide)
  go_enter Tryd.func38, Tryd.ntmps38
  go_wp2
  go_ret
  exact ⟨rfl, rfl⟩

set_option maxRecDepth 100000 in
set_option maxHeartbeats 2000000 in
theorem trunc_ro (f B fd : Nat) (k x rdc : Int) (dv : Value) (d : FD) (w : World) (hH : HandleIs w f ⟨x, rdc, false, true, fd⟩) (hD : DataIs w B fd dv d) :
    Calls Tryd.prog 38 #[.pointer (some ⟨f, 0, none⟩), .int .i64 k] w fun e w' => ∃ b b2, e = .returned (.iface 124 (.pointer (some ⟨b, 0, none⟩))) ∧
      w'.heap[b]? = some (.cells #[.string ⟨#[116, 114, 117, 110, 99, 97, 116, 101]⟩, .string d.nm, .iface 149 (.pointer (some ⟨b2, 0, none⟩))] 127 (0, 0)) ∧
      (∃ c t, w'.heap[b2]? = some (.cells c t (0, 0))) ∧ w.heap.size ≤ b2 ∧ Below w.heap.size w w' := by
  have c2 := (cell_of hH 2).trans rfl
  have c3 := (cell_of hH 3).trans rfl
  have c4 := (cell_of hH 4).trans rfl
  have d0 := (cell_of hD.1 0).trans rfl
  have hfl := lt_of_heap hH
  have hfdl := lt_of_heap hD.1
  go_enter Tryd.func38, Tryd.ntmps38
  go_upto_region 4 with fail
  go_region_law (first
    | (go_simp; go_at_call 67; refine (new_err _ _).mono ?_; rintro e w1 ⟨b2, rfl, hb2, ⟨cc, tt, hc2⟩, hB1⟩; have c4 := (hB1.cell (p := ⟨f, 4, none⟩) hfl).trans c4; have d0 := (hB1.cell (p := ⟨fd, 0, none⟩) hfdl).trans d0))
  all_goals
    go_wp2_with fail
    go_ret
    have hb0 : w.heap.size ≤ w1.heap.size := hB1.size
    refine ⟨_, rfl, b2, alloc_new _ _, ⟨cc, tt, ?_⟩, hb2, (below_drew (Below.refl _ w)).trans (hB1.alloc hb0 _)⟩
    exact (((Below.refl w1.heap.size w1).alloc (Nat.le_refl _) _).block _ (lt_of_heap hc2)).trans hc2

set_option maxRecDepth 100000 in
set_option maxHeartbeats 2000000 in
theorem on_trunc_neg (f B fd : Nat) (x rdc : Int) (ad : Nat → Addr) (dv : Value) (d : FD) (s : Stp) (w : World) (hop : s.op = 17) (hoff : s.off < 0) (hS : Sents B w ad) (hH : HandleIs w f ⟨x, rdc, false, false, fd⟩) (hD : DataIs w B fd dv d) (hB : B ≤ w.heap.size) :
    Calls Tryd.prog 23 #[.pointer (some ⟨f, 0, none⟩), s.val] w fun e w' => e = .returned (ansVal 7 0 0 (.slice none 0 0)) ∧ Laid w w' f B fd ⟨x, rdc, false, false, fd⟩ dv d := by
  obtain ⟨op, name, other, flag, perm, hh, da, dl, dc, off, wh, n⟩ := s
  simp only at hop hoff
  subst hop
  unfold Stp.val ansVal
  simp only
  have hc := trunc_neg f B fd off x rdc ad
  have HC := Lib.hid hc
  clear hc
  go_enter Tryd.func23, Tryd.ntmps23
  go_wp2_with (first
    | (go_at_call 38; refine (HC.out _ (hS.below ((below3 _ _ _ _).mono hB)) (hH.below (below3 _ _ _ _)) hoff).mono ?_; rintro e w4 ⟨rfl, rfl⟩)
    | (go_at_call 46; refine (kind_range B ad _ (hS.below ((below3 _ _ _ _).mono hB))).mono ?_; rintro e w5 ⟨rfl, rfl⟩))
  refine bodyPost_ret (v := ansVal 7 0 0 (.slice none 0 0)) (by simp [results, Tryd.results23, go_sem, ansVal]) rfl ⟨rfl, dv, hH.below (below3 _ _ _ _), hD.below (below3 _ _ _ _), Wrote.of_below (below3 _ _ _ _), .inl rfl⟩

theorem new_ne {B b g : Nat} {w : World} {ad : Nat → Addr} (hS : Sents B w ad) (hB : B ≤ w.heap.size) (hb : w.heap.size ≤ b) (hg : g < 11) (he : (⟨b, 0, none⟩ : Addr) = ad g) : False := by
  have := (hS.low g hg).2
  rw [← he] at this
  simp only at this
  omega

set_option maxRecDepth 100000 in
set_option maxHeartbeats 2000000 in
theorem on_trunc_ro (f B fd : Nat) (x rdc : Int) (ad : Nat → Addr) (dv : Value) (d : FD) (s : Stp) (w : World) (hop : s.op = 17) (hS : Sents B w ad) (hH : HandleIs w f ⟨x, rdc, false, true, fd⟩) (hD : DataIs w B fd dv d) (hB : B ≤ w.heap.size) :
    Calls Tryd.prog 23 #[.pointer (some ⟨f, 0, none⟩), s.val] w fun e w' => e = .returned (ansVal 6 0 0 (.slice none 0 0)) ∧ Laid w w' f B fd ⟨x, rdc, false, true, fd⟩ dv d := by
  obtain ⟨op, name, other, flag, perm, hh, da, dl, dc, off, wh, n⟩ := s
  simp only at hop
  subst hop
  unfold Stp.val ansVal
  simp only
  have hc := trunc_ro f B fd off x rdc dv d
  have HC := Lib.hid hc
  clear hc
  go_enter Tryd.func23, Tryd.ntmps23
  go_wp2_with (first
    | (go_at_call 38; refine (HC.out _ (hH.below (below3 _ _ _ _)) (hD.below (below3 _ _ _ _))).mono ?_; (rintro e w4 ⟨b, b2, rfl, hb, hc2, hb2, hB4⟩); (have hS4 := hS.below (((below3 _ _ _ _).mono hB).trans (hB4.mono (Nat.le_trans hB (below3 _ _ _ _).size)))); (have k1 := keep_new (Wrote.of_below (S := fun k => k = f ∨ k = fd ∨ dv.ownBlock = some k) hB4) (lt_of_heap hH) (lt_of_heap hD.1) (own_lt hD.2.1) (Nat.le_add_right _ 1) (second_new _ _ _ _)); (have k2 := keep_new (Wrote.of_below (S := fun k => k = f ∨ k = fd ∨ dv.ownBlock = some k) hB4) (lt_of_heap hH) (lt_of_heap hD.1) (own_lt hD.2.1) (by omega) (third_new _ _ _ _)); (obtain ⟨⟨p0, p1, p2, p3, p4, p5⟩, q0, q1, q2, q3, q4, q5⟩ := cells6 k1; obtain ⟨⟨r0, r1, r2, r3, r4, r5⟩, t0, t1, t2, t3, t4, t5⟩ := cells6 k2; have T1 := Typed.of k1; have T2 := Typed.of k2; clear k1 k2))
    | (go_at_call 46; (refine (kind_path B ad w4 b ⟨#[116, 114, 117, 110, 99, 97, 116, 101]⟩ d.nm ⟨b2, 0, none⟩ (0, 0) hS4 hb hc2 (fun g hg he => new_ne hS hB (by simp at hb2; omega) hg he) (.inl rfl)).mono ?_; rintro e w5 ⟨rfl, rfl⟩)))
  refine bodyPost_ret (v := ansVal 6 0 0 (.slice none 0 0)) (by simp [results, Tryd.results23, go_sem, ansVal, p0, p1, p2, p3, p4, p5]) rfl ⟨rfl, ?_⟩
  have hL4 : Laid w w4 f B fd ⟨x, rdc, false, true, fd⟩ dv d := ⟨dv, hH.below ((below3 _ _ _ _).trans (hB4.mono (below3 _ _ _ _).size)), hD.below ((below3 _ _ _ _).trans (hB4.mono (below3 _ _ _ _).size)), Wrote.of_below ((below3 _ _ _ _).trans (hB4.mono (below3 _ _ _ _).size)), .inl rfl⟩
  repeat (first | with_reducible exact hL4 | (with_reducible refine Laid.set (t := 42) ?_ ?_ (by decide) (by decide) (by decide) ?_ _; rotate_left; (repeat (first | with_reducible exact T1 | with_reducible exact T2 | with_reducible refine Typed.set ?_ _ _)); (simp only []; omega)))
end Go.Proofs.YtnkhfdnahnphdaaDoor
