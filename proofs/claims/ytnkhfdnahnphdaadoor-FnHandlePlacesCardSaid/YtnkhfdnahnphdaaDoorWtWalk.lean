/- The walks of Write and WriteAt up to the end, and of their steps. -/
import Derived.Test.YtnkhfdnahnphdaaDoorWsWalk
import Derived.Test.YtnkhfdnahnphdaaDoorOnWalk
namespace Go.Proofs.YtnkhfdnahnphdaaDoor
open Go.ChangeShapes Go.WideShapes Go.ChangeAt Go.RowKit Go.Rd
open Go.Proofs.YtnkhfdnahnphdaaDoorW.PrintWords Go.Proofs.YtnkhfdnahnphdaaDoorW.PrintLast Go.Proofs.YtnkhfdnahnphdaaDoorW.PrintMore

/-- Bytes laid over others at a place within them, or at their end. -/
def over (bs : List Int) (a : Nat) (b : List Int) : List Int := bs.take a ++ b ++ bs.drop (a + b.length)

theorem write_any (f B fd a : Nat) (rdc : Int) (dv : Value) (d : FD) (A : Option Addr) (m c : Nat) (b : List Int) (w : World) (hH : HandleIs w f ⟨(a : Int), rdc, false, false, fd⟩) (hD : DataIs w B fd dv d) (hb : BytesIn w A m c b)
    (ha : a ≤ d.bs.length) (hm : m ≤ 4294967296) (hm2 : d.bs.length ≤ 4294967296) (hB : B ≤ w.heap.size) :
    Calls Tryd.prog 35 #[.pointer (some ⟨f, 0, none⟩), .slice A m c] w fun e w' => e = .returned (.tuple #[.int .i64 (m : Int), .nilIface]) ∧ Laid w w' f B fd ⟨(a : Int) + m, rdc, false, false, fd⟩ dv { d with bs := over d.bs a b, mt := 0 } := by
  unfold over
  rw [hb.len]
  by_cases h : m + a < d.bs.length
  · exact write_in f B fd a rdc dv d A m c b w hH hD hb h hm2
  · have e : d.bs.drop (a + m) = [] := List.drop_eq_nil_of_le (by omega)
    rw [e, List.append_nil]
    exact write_flat f B fd a rdc dv d A m c b w hH hD hb ha (by omega) hm hm2 hB

set_option maxHeartbeats 1000000 in
theorem write_at (f B fd a : Nat) (x rdc : Int) (dv : Value) (d : FD) (A : Option Addr) (m c : Nat) (b : List Int) (w : World) (hH : HandleIs w f ⟨x, rdc, false, false, fd⟩) (hD : DataIs w B fd dv d) (hb : BytesIn w A m c b) (hbf : ∀ y, A = some y → y.block ≠ f)
    (ha : a ≤ d.bs.length) (hm : m ≤ 4294967296) (hm2 : d.bs.length ≤ 4294967296) (hB : B ≤ w.heap.size) :
    Calls Tryd.prog 36 #[.pointer (some ⟨f, 0, none⟩), .slice A m c, .int .i64 (a : Int)] w fun e w' => e = .returned (.tuple #[.int .i64 (m : Int), .nilIface]) ∧ Laid w w' f B fd ⟨(a : Int) + m, rdc, false, false, fd⟩ dv { d with bs := over d.bs a b, mt := 0 } := by
  have c0 := (cell_of hH 0).trans rfl
  have f0 := free_of hH 0
  have hH1 : HandleIs (w.setCell ⟨f, 0, none⟩ (.int .i64 (a : Int))) f ⟨(a : Int), rdc, false, false, fd⟩ := Go.Rd.heap_setCell_same (o := 0) hH _
  have hw1 := wrote_set w f 0 (.int .i64 (a : Int))
  have hD1 := hD.wrote hw1 (fun e => fd_ne hD hH e) (fun k hk e => row_fh hD hH k hk e)
  have hb1 : BytesIn (w.setCell ⟨f, 0, none⟩ (.int .i64 (a : Int))) A m c b := ⟨hb.len, hb.nil, hb.le, hb.max, fun y hy j u hu => by
    have h := hb.cells y hy j u hu
    exact (World.cell?_of_block (hw1.block _ (cell_lt h) (fun e => hbf y hy (by rw [Go.Rd.add_block] at e; exact e)))).trans h, hb.fits⟩
  go_enter Tryd.func36, Tryd.ntmps36
  go_wp2_with (go_at_call 35; refine (write_any f B fd a rdc dv d A m c b _ hH1 hD1 hb1 ha hm hm2 (by simpa [World.setCell] using hB)).mono ?_; rintro e w2 ⟨rfl, hL⟩)
  go_ret2
  exact ⟨rfl, Laid.trans (hw1.mono (fun k _ hk => .inl hk)) (.inl rfl) hL⟩

/-- The step's cells in its box. -/
theorem first_new (w : World) (o1 o2 o3 : Obj) : (((w.alloc o1).alloc o2).alloc o3).heap[w.heap.size]? = some o1 := alloc_keeps (alloc_keeps (alloc_new w o1) o2) o3

theorem keep_new {w1 w4 : World} {f fd n k : Nat} {dv : Value} {o : Obj} (hW : Wrote (fun k => k = f ∨ k = fd ∨ dv.ownBlock = some k) w1 w4) (hf : f < n) (hfd : fd < n) (hrow : ∀ k, dv.ownBlock = some k → k < n) (hk : n ≤ k) (h : w1.heap[k]? = some o) : w4.heap[k]? = some o :=
  (hW.block k (lt_of_heap h) (fun hs => by
    rcases hs with e | e | e
    · omega
    · omega
    · have := hrow k e; omega)).trans h
theorem HandleIs.drew {w : World} {f : Nat} {h : FH} (hh : HandleIs w f h) : HandleIs w.drew f h := hh
theorem DataIs.drew {w : World} {B fd : Nat} {dv : Value} {d : FD} (hd : DataIs w B fd dv d) : DataIs w.drew B fd dv d := hd

set_option maxRecDepth 100000 in
set_option maxHeartbeats 2000000 in
theorem on_write_at (f B fd a : Nat) (x rdc : Int) (dv : Value) (d : FD) (s : Stp) (b : List Int) (w : World) (hop : s.op = 15) (hoff : s.off = (a : Int)) (hH : HandleIs w f ⟨x, rdc, false, false, fd⟩) (hD : DataIs w B fd dv d) (hb : BytesIn w s.da s.dl s.dc b)
    (ha : a ≤ d.bs.length) (hm : s.dl ≤ 4294967296) (hm2 : d.bs.length ≤ 4294967296) (hB : B ≤ w.heap.size) :
    Calls Tryd.prog 23 #[.pointer (some ⟨f, 0, none⟩), s.val] w fun e w' => e = .returned (ansVal 0 s.dl 0 (.slice none 0 0)) ∧ Laid w w' f B fd ⟨(a : Int) + s.dl, rdc, false, false, fd⟩ dv { d with bs := over d.bs a b, mt := 0 } := by
  obtain ⟨op, name, other, flag, perm, hh, da, dl, dc, off, wh, n⟩ := s
  simp only at hop hoff hb hm
  subst hop hoff
  unfold Stp.val ansVal
  simp only
  have hfl : f < w.heap.size := lt_of_heap hH
  have hfdl : fd < w.heap.size := lt_of_heap hD.1
  have hrow := own_lt hD.2.1
  go_enter Tryd.func23, Tryd.ntmps23
  go_upto_region 18 with fail
  have h0 := first_new w (.cells #[.int .i64 15, .string name, .string other, .int .i64 flag, .int .i64 perm, .int .i64 hh, .slice da dl dc, .int .i64 (a : Int), .int .i64 wh, .int .i64 n] 33) (.cells #[.int .i64 0, .int .i64 0, .int .i64 0, .slice none 0 0, .slice none 0 0, .slice none 0 0] 42) (.cells #[.int .i64 0, .int .i64 0, .int .i64 0, .slice none 0 0, .slice none 0 0, .slice none 0 0] 42)
  have h1 := second_new w (.cells #[.int .i64 15, .string name, .string other, .int .i64 flag, .int .i64 perm, .int .i64 hh, .slice da dl dc, .int .i64 (a : Int), .int .i64 wh, .int .i64 n] 33) (.cells #[.int .i64 0, .int .i64 0, .int .i64 0, .slice none 0 0, .slice none 0 0, .slice none 0 0] 42) (.cells #[.int .i64 0, .int .i64 0, .int .i64 0, .slice none 0 0, .slice none 0 0, .slice none 0 0] 42)
  have h2 := third_new w (.cells #[.int .i64 15, .string name, .string other, .int .i64 flag, .int .i64 perm, .int .i64 hh, .slice da dl dc, .int .i64 (a : Int), .int .i64 wh, .int .i64 n] 33) (.cells #[.int .i64 0, .int .i64 0, .int .i64 0, .slice none 0 0, .slice none 0 0, .slice none 0 0] 42) (.cells #[.int .i64 0, .int .i64 0, .int .i64 0, .slice none 0 0, .slice none 0 0, .slice none 0 0] 42)
  have hb3 := below3 w (.cells #[.int .i64 15, .string name, .string other, .int .i64 flag, .int .i64 perm, .int .i64 hh, .slice da dl dc, .int .i64 (a : Int), .int .i64 wh, .int .i64 n] 33) (.cells #[.int .i64 0, .int .i64 0, .int .i64 0, .slice none 0 0, .slice none 0 0, .slice none 0 0] 42) (.cells #[.int .i64 0, .int .i64 0, .int .i64 0, .slice none 0 0, .slice none 0 0, .slice none 0 0] 42)
  generalize ((w.alloc (.cells #[.int .i64 15, .string name, .string other, .int .i64 flag, .int .i64 perm, .int .i64 hh, .slice da dl dc, .int .i64 (a : Int), .int .i64 wh, .int .i64 n] 33)).alloc (.cells #[.int .i64 0, .int .i64 0, .int .i64 0, .slice none 0 0, .slice none 0 0, .slice none 0 0] 42)).alloc (.cells #[.int .i64 0, .int .i64 0, .int .i64 0, .slice none 0 0, .slice none 0 0, .slice none 0 0] 42) = W3 at *
  have hn2 := lt_of_heap h2
  have hH3 := hH.below hb3
  have hD3 := hD.below hb3
  have s6 := (cell_of h0 6).trans rfl
  have s7 := (cell_of h0 7).trans rfl
  have hR := run_dup (P := Tryd.prog) (w := W3.drew) 22 22 5 Tryd.underlying22 infoU8 da dl dc b ((hb.below hb3).below ((Below.refl _ _).drew)) (by omega)
  have HR := Lib.hid hR
  clear hR
  go_region_law (first
    | (refine step_append_run rfl (.const (.slice none 0 0)) (.tmp 69) 22 rfl (.slice none 0 0) (.slice da dl dc) (by simp [Act.eval]) (by simp [Act.eval]) _ HR.out ?_; rintro v1 w1 ⟨A2, c2, ev1, hb2, hbl2, _, hbe2⟩; subst ev1; have s7' := (hbe2.cell (p := ⟨w.heap.size, 7, none⟩) (by show w.heap.size < W3.heap.size; omega)).trans s7)
    | (go_simp; go_at_call 36; refine (write_at f B fd a x rdc dv d A2 dl c2 b _ (hH3.drew.below hbe2) (hD3.drew.below hbe2) hb2 (fun y hy e => by have := hbl2 y hy; have hs : W3.drew.heap.size = W3.heap.size := rfl; omega) ha hm hm2 (by have := hbe2.size; have hs : W3.drew.heap.size = W3.heap.size := rfl; have := hb3.size; omega)).mono ?_; rintro e w4 ⟨rfl, dv4, hH4, hD4, hW4, hat4⟩; have k1 := keep_new hW4 hfl hfdl hrow (Nat.le_add_right _ 1) ((hbe2.block (w.heap.size + 1) (by show w.heap.size + 1 < W3.heap.size; omega)).trans h1); have k2 := keep_new hW4 hfl hfdl hrow (by omega) ((hbe2.block (w.heap.size + 1 + 1) (by show w.heap.size + 1 + 1 < W3.heap.size; omega)).trans h2); obtain ⟨⟨p0, p1, p2, p3, p4, p5⟩, q0, q1, q2, q3, q4, q5⟩ := cells6 k1; obtain ⟨⟨r0, r1, r2, r3, r4, r5⟩, t0, t1, t2, t3, t4, t5⟩ := cells6 k2))
  all_goals
    have T1 := Typed.of k1
    have T2 := Typed.of k2
    clear k1 k2
    go_wp2_with (go_at_call 46; refine (kind_nil _).mono ?_; rintro e w5 ⟨rfl, rfl⟩)
    refine bodyPost_ret (v := ansVal 0 dl 0 (.slice none 0 0)) (by simp [results, Tryd.results23, go_sem, ansVal, p0, p1, p2, p3, p4, p5]) rfl ⟨rfl, ?_⟩
    have hL4 : Laid w w4 f B fd ⟨(a : Int) + dl, rdc, false, false, fd⟩ dv { d with bs := over d.bs a b, mt := 0 } :=
      Laid.trans (Wrote.of_below (hb3.trans (Below.mono (w := W3) (w' := w1) ⟨hbe2.os, hbe2.tape, hbe2.output, hbe2.size, hbe2.block⟩ hb3.size))) (.inl rfl) ⟨dv4, hH4, hD4, hW4, hat4⟩
    repeat (first | with_reducible exact hL4 | (with_reducible refine Laid.set (t := 42) ?_ ?_ (by decide) (by decide) (by decide) ?_ _; rotate_left; (repeat (first | with_reducible exact T1 | with_reducible exact T2 | with_reducible refine Typed.set ?_ _ _)); (simp only []; omega)))
end Go.Proofs.YtnkhfdnahnphdaaDoor
