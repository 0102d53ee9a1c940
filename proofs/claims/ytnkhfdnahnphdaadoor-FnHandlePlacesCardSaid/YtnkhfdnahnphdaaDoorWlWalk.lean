/- Write and WriteAt at any place, and the steps that take them. -/
import Derived.Test.YtnkhfdnahnphdaaDoorWgWalk
import Derived.Test.YtnkhfdnahnphdaaDoorTsWalk
namespace Go.Proofs.YtnkhfdnahnphdaaDoor
open Go.ChangeShapes Go.WideShapes Go.ChangeAt Go.RowKit Go.Rd
set_option linter.unusedVariables false
open Go.Proofs.YtnkhfdnahnphdaaDoorW.PrintWords Go.Proofs.YtnkhfdnahnphdaaDoorW.PrintLast Go.Proofs.YtnkhfdnahnphdaaDoorW.PrintMore

theorem lay_over {bs b : List Int} {a : Nat} (h : a ≤ bs.length) : lay bs a b = over bs a b := by
  unfold lay over sized
  rw [show a - bs.length = 0 by omega, List.replicate_zero, List.append_nil]
theorem lay_gap {bs b : List Int} {a k : Nat} (h : a = bs.length + k) : lay bs a b = bs ++ (List.replicate k 0 ++ b) := by
  unfold lay sized
  rw [List.take_of_length_le (by omega), List.drop_eq_nil_of_le (by omega), show a - bs.length = k by omega, List.append_nil, List.append_assoc]
theorem lay_length (bs b : List Int) (a : Nat) : (lay bs a b).length = max bs.length (a + b.length) := by
  unfold lay sized; simp; omega

theorem write_all (f B fd a : Nat) (rdc : Int) (dv : Value) (d : FD) (A : Option Addr) (m c : Nat) (b : List Int) (w : World) (hH : HandleIs w f ⟨(a : Int), rdc, false, false, fd⟩) (hD : DataIs w B fd dv d) (hb : BytesIn w A m c b)
    (ha : a ≤ 4294967296) (hm : m ≤ 4294967296) (hm2 : d.bs.length ≤ 4294967296) (hB : B ≤ w.heap.size) :
    Calls Tryd.prog 35 #[.pointer (some ⟨f, 0, none⟩), .slice A m c] w fun e w' => e = .returned (.tuple #[.int .i64 (m : Int), .nilIface]) ∧ Laid w w' f B fd ⟨(a : Int) + m, rdc, false, false, fd⟩ dv { d with bs := lay d.bs a b, mt := 0 } := by
  by_cases h : a ≤ d.bs.length
  · rw [lay_over h]
    exact write_any f B fd a rdc dv d A m c b w hH hD hb h hm hm2 hB
  · obtain ⟨k, hk⟩ : ∃ k, a = d.bs.length + k := ⟨a - d.bs.length, by omega⟩
    rw [lay_gap hk]
    exact write_gap f B fd a k rdc dv d A m c b w hH hD hb hk (by omega) hm ha hB

set_option maxHeartbeats 1000000 in
theorem write_at_all (f B fd a : Nat) (x rdc : Int) (dv : Value) (d : FD) (A : Option Addr) (m c : Nat) (b : List Int) (w : World) (hH : HandleIs w f ⟨x, rdc, false, false, fd⟩) (hD : DataIs w B fd dv d) (hb : BytesIn w A m c b) (hbf : ∀ y, A = some y → y.block ≠ f)
    (ha : a ≤ 4294967296) (hm : m ≤ 4294967296) (hm2 : d.bs.length ≤ 4294967296) (hB : B ≤ w.heap.size) :
    Calls Tryd.prog 36 #[.pointer (some ⟨f, 0, none⟩), .slice A m c, .int .i64 (a : Int)] w fun e w' => e = .returned (.tuple #[.int .i64 (m : Int), .nilIface]) ∧ Laid w w' f B fd ⟨(a : Int) + m, rdc, false, false, fd⟩ dv { d with bs := lay d.bs a b, mt := 0 } := by
  have c0 := (cell_of hH 0).trans rfl
  have f0 := free_of hH 0
  have hH1 : HandleIs (w.setCell ⟨f, 0, none⟩ (.int .i64 (a : Int))) f ⟨(a : Int), rdc, false, false, fd⟩ := Go.Rd.heap_setCell_same (o := 0) hH _
  have hw1 := wrote_set w f 0 (.int .i64 (a : Int))
  have hD1 := hD.wrote hw1 (fun e => fd_ne hD hH e) (fun k hk e => row_fh hD hH k hk e)
  have hb1 : BytesIn (w.setCell ⟨f, 0, none⟩ (.int .i64 (a : Int))) A m c b := ⟨hb.len, hb.nil, hb.le, hb.max, fun y hy j u hu => by
    have h := hb.cells y hy j u hu
    exact (World.cell?_of_block (hw1.block _ (cell_lt h) (fun e => hbf y hy (by rw [Go.Rd.add_block] at e; exact e)))).trans h, hb.fits⟩
  go_enter Tryd.func36, Tryd.ntmps36
  go_wp2_with (go_at_call 35; refine (write_all f B fd a rdc dv d A m c b _ hH1 hD1 hb1 ha hm hm2 (by simpa [World.setCell] using hB)).mono ?_; rintro e w2 ⟨rfl, hL⟩)
  go_ret2
  exact ⟨rfl, Laid.trans (hw1.mono (fun k _ hk => .inl hk)) (.inl rfl) hL⟩

set_option maxRecDepth 100000 in
set_option maxHeartbeats 2000000 in
theorem on_write_at_all (f B fd a : Nat) (x rdc : Int) (dv : Value) (d : FD) (s : Stp) (b : List Int) (w : World) (hop : s.op = 15) (hoff : s.off = (a : Int)) (hH : HandleIs w f ⟨x, rdc, false, false, fd⟩) (hD : DataIs w B fd dv d) (hb : BytesIn w s.da s.dl s.dc b)
    (ha : a ≤ 4294967296) (hm : s.dl ≤ 4294967296) (hm2 : d.bs.length ≤ 4294967296) (hB : B ≤ w.heap.size) :
    Calls Tryd.prog 23 #[.pointer (some ⟨f, 0, none⟩), s.val] w fun e w' => e = .returned (ansVal 0 s.dl 0 (.slice none 0 0)) ∧ Laid w w' f B fd ⟨(a : Int) + s.dl, rdc, false, false, fd⟩ dv { d with bs := lay d.bs a b, mt := 0 } := by
  obtain ⟨op, name, other, flag, perm, hh, da, dl, dc, off, wh, n⟩ := s
  simp only at hop hoff hb hm
  subst hop hoff
  unfold Stp.val ansVal
  simp only
  have hfl : f < w.heap.size := lt_of_heap hH
  have hfdl : fd < w.heap.size := lt_of_heap hD.1
  have hrow := own_lt hD.2.1
  go_enter Tryd.func23, Tryd.ntmps23
  go_upto_region 18 with fail
  have h0 := first_new w (.cells #[.int .i64 15, .string name, .string other, .int .i64 flag, .int .i64 perm, .int .i64 hh, .slice da dl dc, .int .i64 (a : Int), .int .i64 wh, .int .i64 n] 33) (.cells #[.int .i64 0, .int .i64 0, .int .i64 0, .slice none 0 0, .slice none 0 0, .slice none 0 0] 42) (.cells #[.int .i64 0, .int .i64 0, .int .i64 0, .slice none 0 0, .slice none 0 0, .slice none 0 0] 42)
  have h1 := second_new w (.cells #[.int .i64 15, .string name, .string other, .int .i64 flag, .int .i64 perm, .int .i64 hh, .slice da dl dc, .int .i64 (a : Int), .int .i64 wh, .int .i64 n] 33) (.cells #[.int .i64 0, .int .i64 0, .int .i64 0, .slice none 0 0, .slice none 0 0, .slice none 0 0] 42) (.cells #[.int .i64 0, .int .i64 0, .int .i64 0, .slice none 0 0, .slice none 0 0, .slice none 0 0] 42)
  have h2 := third_new w (.cells #[.int .i64 15, .string name, .string other, .int .i64 flag, .int .i64 perm, .int .i64 hh, .slice da dl dc, .int .i64 (a : Int), .int .i64 wh, .int .i64 n] 33) (.cells #[.int .i64 0, .int .i64 0, .int .i64 0, .slice none 0 0, .slice none 0 0, .slice none 0 0] 42) (.cells #[.int .i64 0, .int .i64 0, .int .i64 0, .slice none 0 0, .slice none 0 0, .slice none 0 0] 42)
  have hb3 := below3 w (.cells #[.int .i64 15, .string name, .string other, .int .i64 flag, .int .i64 perm, .int .i64 hh, .slice da dl dc, .int .i64 (a : Int), .int .i64 wh, .int .i64 n] 33) (.cells #[.int .i64 0, .int .i64 0, .int .i64 0, .slice none 0 0, .slice none 0 0, .slice none 0 0] 42) (.cells #[.int .i64 0, .int .i64 0, .int .i64 0, .slice none 0 0, .slice none 0 0, .slice none 0 0] 42)
  generalize ((w.alloc (.cells #[.int .i64 15, .string name, .string other, .int .i64 flag, .int .i64 perm, .int .i64 hh, .slice da dl dc, .int .i64 (a : Int), .int .i64 wh, .int .i64 n] 33)).alloc (.cells #[.int .i64 0, .int .i64 0, .int .i64 0, .slice none 0 0, .slice none 0 0, .slice none 0 0] 42)).alloc (.cells #[.int .i64 0, .int .i64 0, .int .i64 0, .slice none 0 0, .slice none 0 0, .slice none 0 0] 42) = W3 at *
  have hn2 := lt_of_heap h2
  have hH3 := hH.below hb3
  have hD3 := hD.below hb3
  have s6 := (cell_of h0 6).trans rfl
  have s7 := (cell_of h0 7).trans rfl
  have hR := run_dup (P := Tryd.prog) (w := W3.drew) 22 22 5 Tryd.underlying22 infoU8 da dl dc b ((hb.below hb3).below ((Below.refl _ _).drew)) (by omega)
  have HR := Lib.hid hR
  clear hR
  go_region_law (first
    | (refine step_append_run rfl (.const (.slice none 0 0)) (.tmp 69) 22 rfl (.slice none 0 0) (.slice da dl dc) (by simp [Act.eval]) (by simp [Act.eval]) _ HR.out ?_; rintro v1 w1 ⟨A2, c2, ev1, hb2, hbl2, _, hbe2⟩; subst ev1; have s7' := (hbe2.cell (p := ⟨w.heap.size, 7, none⟩) (by show w.heap.size < W3.heap.size; omega)).trans s7)
    | (go_simp; go_at_call 36; refine (write_at_all f B fd a x rdc dv d A2 dl c2 b _ (hH3.drew.below hbe2) (hD3.drew.below hbe2) hb2 (fun y hy e => by have := hbl2 y hy; have hs : W3.drew.heap.size = W3.heap.size := rfl; omega) ha hm hm2 (by have := hbe2.size; have hs : W3.drew.heap.size = W3.heap.size := rfl; have := hb3.size; omega)).mono ?_; rintro e w4 ⟨rfl, dv4, hH4, hD4, hW4, hat4⟩; have k1 := keep_new hW4 hfl hfdl hrow (Nat.le_add_right _ 1) ((hbe2.block (w.heap.size + 1) (by show w.heap.size + 1 < W3.heap.size; omega)).trans h1); have k2 := keep_new hW4 hfl hfdl hrow (by omega) ((hbe2.block (w.heap.size + 1 + 1) (by show w.heap.size + 1 + 1 < W3.heap.size; omega)).trans h2); obtain ⟨⟨p0, p1, p2, p3, p4, p5⟩, q0, q1, q2, q3, q4, q5⟩ := cells6 k1; obtain ⟨⟨r0, r1, r2, r3, r4, r5⟩, t0, t1, t2, t3, t4, t5⟩ := cells6 k2))
  all_goals
    have T1 := Typed.of k1
    have T2 := Typed.of k2
    clear k1 k2
    go_wp2_with (go_at_call 46; refine (kind_nil _).mono ?_; rintro e w5 ⟨rfl, rfl⟩)
    refine bodyPost_ret (v := ansVal 0 dl 0 (.slice none 0 0)) (by simp [results, Tryd.results23, go_sem, ansVal, p0, p1, p2, p3, p4, p5]) rfl ⟨rfl, ?_⟩
    have hL4 : Laid w w4 f B fd ⟨(a : Int) + dl, rdc, false, false, fd⟩ dv { d with bs := lay d.bs a b, mt := 0 } :=
      Laid.trans (Wrote.of_below (hb3.trans (Below.mono (w := W3) (w' := w1) ⟨hbe2.os, hbe2.tape, hbe2.output, hbe2.size, hbe2.block⟩ hb3.size))) (.inl rfl) ⟨dv4, hH4, hD4, hW4, hat4⟩
    repeat (first | with_reducible exact hL4 | (with_reducible refine Laid.set (t := 42) ?_ ?_ (by decide) (by decide) (by decide) ?_ _; rotate_left; (repeat (first | with_reducible exact T1 | with_reducible exact T2 | with_reducible refine Typed.set ?_ _ _)); (simp only []; omega)))

set_option maxRecDepth 100000 in
set_option maxHeartbeats 2000000 in
theorem on_write_all (f B fd a : Nat) (rdc : Int) (dv : Value) (d : FD) (s : Stp) (b : List Int) (w : World) (hop : s.op = 14) (hH : HandleIs w f ⟨(a : Int), rdc, false, false, fd⟩) (hD : DataIs w B fd dv d) (hb : BytesIn w s.da s.dl s.dc b)
    (ha : a ≤ 4294967296) (hm : s.dl ≤ 4294967296) (hm2 : d.bs.length ≤ 4294967296) (hB : B ≤ w.heap.size) :
    Calls Tryd.prog 23 #[.pointer (some ⟨f, 0, none⟩), s.val] w fun e w' => e = .returned (ansVal 0 s.dl 0 (.slice none 0 0)) ∧ Laid w w' f B fd ⟨(a : Int) + s.dl, rdc, false, false, fd⟩ dv { d with bs := lay d.bs a b, mt := 0 } := by
  obtain ⟨op, name, other, flag, perm, hh, da, dl, dc, off, wh, n⟩ := s
  simp only at hop hb hm
  subst hop
  unfold Stp.val ansVal
  simp only
  have hfl : f < w.heap.size := lt_of_heap hH
  have hfdl : fd < w.heap.size := lt_of_heap hD.1
  have hrow := own_lt hD.2.1
  go_enter Tryd.func23, Tryd.ntmps23
  go_wp2_with (at_builtin; refine append_src rfl (.const (.slice none 0 0)) (.tmp 58) 22 rfl (w.heap.size + 1 + 1 + 1) 5 _ (.int .u8 0) 1 1 Tryd.underlying22 rfl rfl rfl rfl rfl (by decide) (.slice none 0 0) 0 [] rfl (World.ownsRow_nil _ _ _ _) da dl dc (b.map (Value.int .u8)) rfl (hb.src).1 hb.nil (hb.below (below3 _ _ _ _)).cells (hb.src).2.2.2 (by unfold maxLen; omega) (by omega) (by simp) ?_; intro v1 w1 ho1 hg1)
  rw [Nat.zero_add, List.nil_append] at ho1
  obtain ⟨A1, c1, ev1, hb1⟩ := BytesIn.own ho1 hb.fits
  subst ev1
  have hB1 : Below w.heap.size w w1 := (below3 w _ _ _).trans ⟨hg1.os, hg1.tape, hg1.output, hg1.size, fun k hk => hg1.block k (by simp; omega) (by simp [Value.ownBlock])⟩
  have k1 := (hg1.block _ (by simp) (by simp [Value.ownBlock])).trans (second_new w _ _ _)
  have k2 := (hg1.block _ (by simp) (by simp [Value.ownBlock])).trans (third_new w _ _ _)
  refine (write_all f B fd a rdc dv d A1 dl c1 b _ (hH.below hB1) (hD.below hB1) hb1 ha hm hm2 (Nat.le_trans hB hB1.size)).mono ?_
  rintro e w4 ⟨rfl, dv4, hH4, hD4, hW4, hat4⟩
  have k1 := keep_new hW4 hfl hfdl hrow (Nat.le_add_right _ 1) k1
  have k2 := keep_new hW4 hfl hfdl hrow (by omega) k2
  obtain ⟨⟨p0, p1, p2, p3, p4, p5⟩, q0, q1, q2, q3, q4, q5⟩ := cells6 k1
  obtain ⟨⟨r0, r1, r2, r3, r4, r5⟩, t0, t1, t2, t3, t4, t5⟩ := cells6 k2
  have T1 := Typed.of k1
  have T2 := Typed.of k2
  clear k1 k2
  go_wp2_with (go_at_call 46; refine (kind_nil _).mono ?_; rintro e w5 ⟨rfl, rfl⟩)
  refine bodyPost_ret (v := ansVal 0 dl 0 (.slice none 0 0)) (by simp [results, Tryd.results23, go_sem, ansVal, p0, p1, p2, p3, p4, p5]) rfl ⟨rfl, ?_⟩
  have hL4 : Laid w w4 f B fd ⟨(a : Int) + dl, rdc, false, false, fd⟩ dv { d with bs := lay d.bs a b, mt := 0 } :=
    Laid.trans (Wrote.of_below hB1) (.inl rfl) ⟨dv4, hH4, hD4, hW4, hat4⟩
  repeat (first | with_reducible exact hL4 | (with_reducible refine Laid.set (t := 42) ?_ ?_ (by decide) (by decide) (by decide) ?_ _; rotate_left; (repeat (first | with_reducible exact T1 | with_reducible exact T2 | with_reducible refine Typed.set ?_ _ _)); (simp only []; omega)))

theorem okE_write (s : St) (x : Stp) (b : List Int) (a : Nat) (hcl : s.cl = false) (hro : s.ro = false) (hop : x.op = 14) (hat : s.at_ = (a : Int)) (ha : a ≤ 4294967296) (hm : x.dl ≤ 4294967296) (hm2 : s.bs.length ≤ 4294967296) :
    StepOkE s (x, b) ⟨0, x.dl, 0, []⟩ ⟨(a : Int) + x.dl, false, false, lay s.bs a b⟩ := by
  obtain ⟨at_, cl, ro, bs⟩ := s
  simp only at hcl hro hat
  subst hcl hro hat
  intro w f B fd dv hH hD hb hB _
  refine (on_write_all f B fd a 0 dv _ x b w hop hH hD hb ha hm hm2 hB).mono ?_
  rintro e w' ⟨rfl, dv1, hH1, hD1, hW1, hat1⟩
  exact ⟨_, rfl, dv1, hH1, hD1, hW1, hat1, ansK_none _ _ _ _ _⟩
theorem okE_write_at (s : St) (x : Stp) (b : List Int) (a : Nat) (hcl : s.cl = false) (hro : s.ro = false) (hop : x.op = 15) (hoff : x.off = (a : Int)) (ha : a ≤ 4294967296) (hm : x.dl ≤ 4294967296) (hm2 : s.bs.length ≤ 4294967296) :
    StepOkE s (x, b) ⟨0, x.dl, 0, []⟩ ⟨(a : Int) + x.dl, false, false, lay s.bs a b⟩ := by
  obtain ⟨at_, cl, ro, bs⟩ := s
  simp only at hcl hro
  subst hcl hro
  intro w f B fd dv hH hD hb hB _
  refine (on_write_at_all f B fd a at_ 0 dv _ x b w hop hoff hH hD hb ha hm hm2 hB).mono ?_
  rintro e w' ⟨rfl, dv1, hH1, hD1, hW1, hat1⟩
  exact ⟨_, rfl, dv1, hH1, hD1, hW1, hat1, ansK_none _ _ _ _ _⟩
end Go.Proofs.YtnkhfdnahnphdaaDoor
