/- Parts of the proof, merged: Sc, Sd, Rg. -/
import Derived.Deep.RegionHeld3
import Derived.IntWalk
import Derived.StillTail
import Derived.StillTailTactics
import Derived.Test.YtnkhfdnahnphdaaDoorZc13
section
namespace Go.Proofs.YtnkhfdnahnphdaaDoor
open Go.ChangeShapes Go.WideShapes Go.ChangeAt Go.RowKit Go.Rd
open Go.Proofs.YtnkhfdnahnphdaaDoorW.PrintWords Go.Proofs.YtnkhfdnahnphdaaDoorW.PrintLast Go.Proofs.YtnkhfdnahnphdaaDoorW.PrintMore
set_option linter.unusedVariables false
namespace Sb
/-- A region whose operations but the last few read. -/
theorem still_tail' {P : Program} {id : Nat} {Q : Exit → Act → World → Prop} {a : Act} {w : World} {l : List Oper} (n : Nat) (hm : P.follows .mixedOrders = true) (hB : Region.lexTailB .any l.toArray n = true)
    (h : wpStill P l.toArray w.drew (fun a' => wpList P l.toArray Q (l.drop n) a' w.drew) (l.take n) a) : (Code.region id l.toArray true).wp P Q a w := wp_region_still_tail n hm hB h
set_option maxRecDepth 100000 in
set_option maxHeartbeats 2000000 in
theorem file_ro (m hb B mb : Nat) (nv av dv : Value) (l : List SN) (h : SH) (s : Stp) (w : World) (hop : s.op = 14 ∨ s.op = 17) (hM : MemIs w m nv av dv mb) (hH : SHIs w hb h) (hN : NodesIs w B dv l) (hi : h.node < l.length) (hcl : h.cl = false) (hro : h.ro = true) :
    Calls Tryd.prog 85 #[.pointer (some ⟨m, 0, none⟩), .pointer (some ⟨hb, 0, none⟩), s.val] w (FilePost w hb B dv l h.node ⟨6, 0, 0, []⟩ h l[h.node]) := by
  obtain ⟨op, name, other, flag, perm, hh, da, dl, dc, off, wh, n⟩ := s
  obtain ⟨node, at_, listed, cl, ro⟩ := h
  simp only at hop hcl hro hi ⊢
  subst hcl hro
  unfold Stp.val
  simp only
  go_enter Tryd.func85, Tryd.ntmps85
  go_upto_region 1 with fail
  obtain ⟨W, hW⟩ : ∃ W, ((w.alloc (.cells #[.int .i64 op, .string name, .string other, .int .i64 flag, .int .i64 perm, .int .i64 hh, .slice da dl dc, .int .i64 off, .int .i64 wh, .int .i64 n] tStep)).alloc (.cells #[.int .i64 0, .int .i64 0, .int .i64 0, .slice none 0 0, .slice none 0 0, .slice none 0 0] tAns)) = W := ⟨_, rfl⟩
  have hs0 := two_old w (.cells #[.int .i64 op, .string name, .string other, .int .i64 flag, .int .i64 perm, .int .i64 hh, .slice da dl dc, .int .i64 off, .int .i64 wh, .int .i64 n] tStep) (.cells #[.int .i64 0, .int .i64 0, .int .i64 0, .slice none 0 0, .slice none 0 0, .slice none 0 0] tAns)
  have ha0 := two_new w (.cells #[.int .i64 op, .string name, .string other, .int .i64 flag, .int .i64 perm, .int .i64 hh, .slice da dl dc, .int .i64 off, .int .i64 wh, .int .i64 n] tStep) (.cells #[.int .i64 0, .int .i64 0, .int .i64 0, .slice none 0 0, .slice none 0 0, .slice none 0 0] tAns)
  have hB0 := two_below w (.cells #[.int .i64 op, .string name, .string other, .int .i64 flag, .int .i64 perm, .int .i64 hh, .slice da dl dc, .int .i64 off, .int .i64 wh, .int .i64 n] tStep) (.cells #[.int .i64 0, .int .i64 0, .int .i64 0, .slice none 0 0, .slice none 0 0, .slice none 0 0] tAns)
  rw [hW] at hs0 ha0 hB0
  have hW2 : ∀ {P} {c : Code} {Q : Exit → Act → World → Prop} {a : Act}, c.wp P Q a W → c.wp P Q a _ := fun {P c Q a} h => hW.symm ▸ h
  refine hW2 ?_
  clear hW2 hW
  have hM1 := hM.below hB0
  have hH1 := hH.below hB0
  have hN1 := NodesIs.below hN hB0
  obtain ⟨nb, cap, v, rfl, hle, hnb, ⟨x0, x1, x2, x3, x4⟩, hov, hf, hz⟩ := NodesIs.at hN1 hi
  obtain ⟨vA, vc, rfl, hby⟩ := BytesIn.own hov hf
  have HBY := Lib.hid hby
  clear hby
  have m2 := (cell_of hM1 2).trans rfl
  have c0 := (cell_of hH1 0).trans rfl
  have c1 := (cell_of hH1 1).trans rfl
  have c3 := (cell_of hH1 3).trans rfl
  have c4 := (cell_of hH1 4).trans rfl
  have f1 := free_of hH1 1
  have f3 := free_of hH1 3
  have s0 := (cell_of hs0 0).trans rfl
  have s6 := (cell_of hs0 6).trans rfl
  have s7 := (cell_of hs0 7).trans rfl
  have s8 := (cell_of hs0 8).trans rfl
  have s9 := (cell_of hs0 9).trans rfl
  obtain ⟨⟨p0, p1, p2, p3, p4, p5⟩, q0, q1, q2, q3, q4, q5⟩ := cells6 ha0
  have htab : Typed W (w.heap.size + 1) tAns := Typed.of ha0
  have hcore : Core w W hb B _ l _ (.slice none 0 0) [] (w.heap.size + 1) := ⟨hH1, hN1, Wrote.of_below hB0, World.ownsRow_nil _ _ _ _, htab, Nat.le_add_right _ 1⟩
  have n1 : w.heap.size ≠ hb := blk_ne hs0 hH1 (by decide)
  have n2 : w.heap.size + 1 ≠ hb := blk_ne ha0 hH1 (by decide)
  have n3 : w.heap.size ≠ nb := by obtain ⟨c, hc⟩ := hnb; exact blk_ne hs0 hc (by decide)
  have n4 : w.heap.size + 1 ≠ nb := by obtain ⟨c, hc⟩ := hnb; exact blk_ne ha0 hc (by decide)
  have n5 : hb ≠ nb := by obtain ⟨c, hc⟩ := hnb; exact blk_ne hH1 hc (by decide)
  have HC := Lib.hid hcore
  have HLE := Lib.hid hle
  have HZ := Lib.hid hz
  have z2 := hz (node * 5 + 2)
  have z3 := hz (node * 5 + 3)
  have HF := Lib.hid hf
  have HM := Lib.hid hM1
  have HB0 := Lib.hid hB0
  have HOV := Lib.hid hov
  have HA0 := Lib.hid ha0
  have HS0 := Lib.hid hs0
  clear hle hz hf hN hH hM hN1 hH1 hM1 hB0 hs0 ha0 hov htab hnb hcore
  obtain ⟨sb, hsb⟩ : ∃ sb, w.heap.size = sb := ⟨_, rfl⟩
  rw [hsb] at s0 s6 s7 s8 s9 p0 p1 p2 p3 p4 p5 q0 q1 q2 q3 q4 q5 HC HA0 HS0 n1 n2 n3 n4 ⊢
  have HSB := Lib.hid hsb
  clear hsb
  have e0 : (op == 18) = false := beq_eq_false_iff_ne.2 (by omega)
  have e1 : (op == 21) = false := beq_eq_false_iff_ne.2 (by omega)
  have e2 : (op == 22) = false := beq_eq_false_iff_ne.2 (by omega)
  have e3 : (op == 23) = false := beq_eq_false_iff_ne.2 (by omega)
  have e4 : (op == 19) = false := beq_eq_false_iff_ne.2 (by omega)
  have e5 : (op == 20) = false := beq_eq_false_iff_ne.2 (by omega)
  have e6 : (op == 12) = false := beq_eq_false_iff_ne.2 (by omega)
  have e7 : (op == 13) = false := beq_eq_false_iff_ne.2 (by omega)
  have e8 : (op == 16) = false := beq_eq_false_iff_ne.2 (by omega)
  have e9 : (op == 15) = false := beq_eq_false_iff_ne.2 (by omega)
  clear hop
  go_quiet (fail)
  go_wp2_with fail
  refine bodyPost_ret (v := ansVal 6 0 0 (.slice none 0 0)) (by simp [results, Tryd.results85, go_sem, ansVal, p0, p1, p2, p3, p4, p5]) rfl ?_
  refine Core.post (a := ⟨6, 0, 0, []⟩) (ab := sb + 1) ?_
  rw [list_same hi]
  have hC := HC.out.drewN nq
  repeat (first | with_reducible exact hC | with_reducible refine Core.set ?_ _ _)
set_option maxRecDepth 100000 in
set_option maxHeartbeats 2000000 in
theorem file_ro_at (m hb B mb : Nat) (nv av dv : Value) (l : List SN) (h : SH) (s : Stp) (w : World) (hop : s.op = 15) (hM : MemIs w m nv av dv mb) (hH : SHIs w hb h) (hN : NodesIs w B dv l) (hi : h.node < l.length) (hcl : h.cl = false) (hro : h.ro = true) :
    Calls Tryd.prog 85 #[.pointer (some ⟨m, 0, none⟩), .pointer (some ⟨hb, 0, none⟩), s.val] w (FilePost w hb B dv l h.node ⟨6, 0, 0, []⟩ { h with at_ := s.off } l[h.node]) := by
  obtain ⟨op, name, other, flag, perm, hh, da, dl, dc, off, wh, n⟩ := s
  obtain ⟨node, at_, listed, cl, ro⟩ := h
  simp only at hop hcl hro hi ⊢
  subst hop hcl hro
  unfold Stp.val
  simp only
  go_enter Tryd.func85, Tryd.ntmps85
  go_upto_region 1 with fail
  obtain ⟨W, hW⟩ : ∃ W, ((w.alloc (.cells #[.int .i64 15, .string name, .string other, .int .i64 flag, .int .i64 perm, .int .i64 hh, .slice da dl dc, .int .i64 off, .int .i64 wh, .int .i64 n] tStep)).alloc (.cells #[.int .i64 0, .int .i64 0, .int .i64 0, .slice none 0 0, .slice none 0 0, .slice none 0 0] tAns)) = W := ⟨_, rfl⟩
  have hs0 := two_old w (.cells #[.int .i64 15, .string name, .string other, .int .i64 flag, .int .i64 perm, .int .i64 hh, .slice da dl dc, .int .i64 off, .int .i64 wh, .int .i64 n] tStep) (.cells #[.int .i64 0, .int .i64 0, .int .i64 0, .slice none 0 0, .slice none 0 0, .slice none 0 0] tAns)
  have ha0 := two_new w (.cells #[.int .i64 15, .string name, .string other, .int .i64 flag, .int .i64 perm, .int .i64 hh, .slice da dl dc, .int .i64 off, .int .i64 wh, .int .i64 n] tStep) (.cells #[.int .i64 0, .int .i64 0, .int .i64 0, .slice none 0 0, .slice none 0 0, .slice none 0 0] tAns)
  have hB0 := two_below w (.cells #[.int .i64 15, .string name, .string other, .int .i64 flag, .int .i64 perm, .int .i64 hh, .slice da dl dc, .int .i64 off, .int .i64 wh, .int .i64 n] tStep) (.cells #[.int .i64 0, .int .i64 0, .int .i64 0, .slice none 0 0, .slice none 0 0, .slice none 0 0] tAns)
  rw [hW] at hs0 ha0 hB0
  have hW2 : ∀ {P} {c : Code} {Q : Exit → Act → World → Prop} {a : Act}, c.wp P Q a W → c.wp P Q a _ := fun {P c Q a} h => hW.symm ▸ h
  refine hW2 ?_
  clear hW2 hW
  have hM1 := hM.below hB0
  have hH1 := hH.below hB0
  have hN1 := NodesIs.below hN hB0
  obtain ⟨nb, cap, v, rfl, hle, hnb, ⟨x0, x1, x2, x3, x4⟩, hov, hf, hz⟩ := NodesIs.at hN1 hi
  obtain ⟨vA, vc, rfl, hby⟩ := BytesIn.own hov hf
  have HBY := Lib.hid hby
  clear hby
  have m2 := (cell_of hM1 2).trans rfl
  have c0 := (cell_of hH1 0).trans rfl
  have c1 := (cell_of hH1 1).trans rfl
  have c3 := (cell_of hH1 3).trans rfl
  have c4 := (cell_of hH1 4).trans rfl
  have f1 := free_of hH1 1
  have f3 := free_of hH1 3
  have s0 := (cell_of hs0 0).trans rfl
  have s6 := (cell_of hs0 6).trans rfl
  have s7 := (cell_of hs0 7).trans rfl
  have s8 := (cell_of hs0 8).trans rfl
  have s9 := (cell_of hs0 9).trans rfl
  obtain ⟨⟨p0, p1, p2, p3, p4, p5⟩, q0, q1, q2, q3, q4, q5⟩ := cells6 ha0
  have htab : Typed W (w.heap.size + 1) tAns := Typed.of ha0
  have hcore : Core w W hb B _ l _ (.slice none 0 0) [] (w.heap.size + 1) := ⟨hH1, hN1, Wrote.of_below hB0, World.ownsRow_nil _ _ _ _, htab, Nat.le_add_right _ 1⟩
  have n1 : w.heap.size ≠ hb := blk_ne hs0 hH1 (by decide)
  have n2 : w.heap.size + 1 ≠ hb := blk_ne ha0 hH1 (by decide)
  have n3 : w.heap.size ≠ nb := by obtain ⟨c, hc⟩ := hnb; exact blk_ne hs0 hc (by decide)
  have n4 : w.heap.size + 1 ≠ nb := by obtain ⟨c, hc⟩ := hnb; exact blk_ne ha0 hc (by decide)
  have n5 : hb ≠ nb := by obtain ⟨c, hc⟩ := hnb; exact blk_ne hH1 hc (by decide)
  have HC := Lib.hid hcore
  have HLE := Lib.hid hle
  have HZ := Lib.hid hz
  have z2 := hz (node * 5 + 2)
  have z3 := hz (node * 5 + 3)
  have HF := Lib.hid hf
  have HM := Lib.hid hM1
  have HB0 := Lib.hid hB0
  have HOV := Lib.hid hov
  have HA0 := Lib.hid ha0
  have HS0 := Lib.hid hs0
  clear hle hz hf hN hH hM hN1 hH1 hM1 hB0 hs0 ha0 hov htab hnb hcore
  obtain ⟨sb, hsb⟩ : ∃ sb, w.heap.size = sb := ⟨_, rfl⟩
  rw [hsb] at s0 s6 s7 s8 s9 p0 p1 p2 p3 p4 p5 q0 q1 q2 q3 q4 q5 HC HA0 HS0 n1 n2 n3 n4 ⊢
  have HSB := Lib.hid hsb
  clear hsb
  go_quiet (fail)
  go_wp2_with fail
  refine bodyPost_ret (v := ansVal 6 0 0 (.slice none 0 0)) (by simp [results, Tryd.results85, go_sem, ansVal, p0, p1, p2, p3, p4, p5]) rfl ?_
  refine Core.post (a := ⟨6, 0, 0, []⟩) (ab := sb + 1) ?_
  rw [list_same hi]
  have hC := (HC.out.drewN nq).setAt off
  repeat (first | with_reducible exact hC | with_reducible refine Core.set ?_ _ _)
set_option maxRecDepth 100000 in
set_option maxHeartbeats 2000000 in
theorem file_seek0 (m hb B mb : Nat) (nv av dv : Value) (l : List SN) (h : SH) (s : Stp) (w : World) (hop : s.op = 16) (hM : MemIs w m nv av dv mb) (hH : SHIs w hb h) (hN : NodesIs w B dv l) (hi : h.node < l.length) (hwh : s.wh = 0) (hcl : h.cl = false) (h1 : -4611686018427387904 ≤ h.at_ ∧ h.at_ ≤ 4611686018427387904) (h2 : -1152921504606846976 ≤ s.off ∧ s.off ≤ 1152921504606846976) (h3 : l[h.node].bs.length ≤ 1000000) :
    Calls Tryd.prog 85 #[.pointer (some ⟨m, 0, none⟩), .pointer (some ⟨hb, 0, none⟩), s.val] w (FilePost w hb B dv l h.node ⟨0, 0, s.off, []⟩ { h with at_ := s.off } l[h.node]) := by
  obtain ⟨op, name, other, flag, perm, hh, da, dl, dc, off, wh, n⟩ := s
  obtain ⟨node, at_, listed, cl, ro⟩ := h
  simp only at hop hwh hcl h1 h2 h3 hi ⊢
  subst hop hwh hcl
  obtain ⟨h1a, h1b⟩ := h1
  obtain ⟨h2a, h2b⟩ := h2
  unfold Stp.val
  simp only
  go_enter Tryd.func85, Tryd.ntmps85
  go_upto_region 1 with fail
  obtain ⟨W, hW⟩ : ∃ W, ((w.alloc (.cells #[.int .i64 16, .string name, .string other, .int .i64 flag, .int .i64 perm, .int .i64 hh, .slice da dl dc, .int .i64 off, .int .i64 0, .int .i64 n] tStep)).alloc (.cells #[.int .i64 0, .int .i64 0, .int .i64 0, .slice none 0 0, .slice none 0 0, .slice none 0 0] tAns)) = W := ⟨_, rfl⟩
  have hs0 := two_old w (.cells #[.int .i64 16, .string name, .string other, .int .i64 flag, .int .i64 perm, .int .i64 hh, .slice da dl dc, .int .i64 off, .int .i64 0, .int .i64 n] tStep) (.cells #[.int .i64 0, .int .i64 0, .int .i64 0, .slice none 0 0, .slice none 0 0, .slice none 0 0] tAns)
  have ha0 := two_new w (.cells #[.int .i64 16, .string name, .string other, .int .i64 flag, .int .i64 perm, .int .i64 hh, .slice da dl dc, .int .i64 off, .int .i64 0, .int .i64 n] tStep) (.cells #[.int .i64 0, .int .i64 0, .int .i64 0, .slice none 0 0, .slice none 0 0, .slice none 0 0] tAns)
  have hB0 := two_below w (.cells #[.int .i64 16, .string name, .string other, .int .i64 flag, .int .i64 perm, .int .i64 hh, .slice da dl dc, .int .i64 off, .int .i64 0, .int .i64 n] tStep) (.cells #[.int .i64 0, .int .i64 0, .int .i64 0, .slice none 0 0, .slice none 0 0, .slice none 0 0] tAns)
  rw [hW] at hs0 ha0 hB0
  have hW2 : ∀ {P} {c : Code} {Q : Exit → Act → World → Prop} {a : Act}, c.wp P Q a W → c.wp P Q a _ := fun {P c Q a} h => hW.symm ▸ h
  refine hW2 ?_
  clear hW2 hW
  have hM1 := hM.below hB0
  have hH1 := hH.below hB0
  have hN1 := NodesIs.below hN hB0
  obtain ⟨nb, cap, v, rfl, hle, hnb, ⟨x0, x1, x2, x3, x4⟩, hov, hf, hz⟩ := NodesIs.at hN1 hi
  obtain ⟨vA, vc, rfl, hby⟩ := BytesIn.own hov hf
  have HBY := Lib.hid hby
  clear hby
  have m2 := (cell_of hM1 2).trans rfl
  have c0 := (cell_of hH1 0).trans rfl
  have c1 := (cell_of hH1 1).trans rfl
  have c3 := (cell_of hH1 3).trans rfl
  have c4 := (cell_of hH1 4).trans rfl
  have f1 := free_of hH1 1
  have f3 := free_of hH1 3
  have s0 := (cell_of hs0 0).trans rfl
  have s6 := (cell_of hs0 6).trans rfl
  have s7 := (cell_of hs0 7).trans rfl
  have s8 := (cell_of hs0 8).trans rfl
  have s9 := (cell_of hs0 9).trans rfl
  obtain ⟨⟨p0, p1, p2, p3, p4, p5⟩, q0, q1, q2, q3, q4, q5⟩ := cells6 ha0
  have htab : Typed W (w.heap.size + 1) tAns := Typed.of ha0
  have hcore : Core w W hb B _ l _ (.slice none 0 0) [] (w.heap.size + 1) := ⟨hH1, hN1, Wrote.of_below hB0, World.ownsRow_nil _ _ _ _, htab, Nat.le_add_right _ 1⟩
  have n1 : w.heap.size ≠ hb := blk_ne hs0 hH1 (by decide)
  have n2 : w.heap.size + 1 ≠ hb := blk_ne ha0 hH1 (by decide)
  have n3 : w.heap.size ≠ nb := by obtain ⟨c, hc⟩ := hnb; exact blk_ne hs0 hc (by decide)
  have n4 : w.heap.size + 1 ≠ nb := by obtain ⟨c, hc⟩ := hnb; exact blk_ne ha0 hc (by decide)
  have n5 : hb ≠ nb := by obtain ⟨c, hc⟩ := hnb; exact blk_ne hH1 hc (by decide)
  have HC := Lib.hid hcore
  have HLE := Lib.hid hle
  have HZ := Lib.hid hz
  have z2 := hz (node * 5 + 2)
  have z3 := hz (node * 5 + 3)
  have HF := Lib.hid hf
  have HM := Lib.hid hM1
  have HB0 := Lib.hid hB0
  have HOV := Lib.hid hov
  have HA0 := Lib.hid ha0
  have HS0 := Lib.hid hs0
  clear hle hz hf hN hH hM hN1 hH1 hM1 hB0 hs0 ha0 hov htab hnb hcore
  obtain ⟨sb, hsb⟩ : ∃ sb, w.heap.size = sb := ⟨_, rfl⟩
  rw [hsb] at s0 s6 s7 s8 s9 p0 p1 p2 p3 p4 p5 q0 q1 q2 q3 q4 q5 HC HA0 HS0 n1 n2 n3 n4 ⊢
  have HSB := Lib.hid hsb
  clear hsb
  go_quiet (fail)
  go_wp2_with fail
  refine bodyPost_ret (v := ansVal 0 0 off (.slice none 0 0)) (by simp [results, Tryd.results85, go_sem, ansVal, p0, p1, p2, p3, p4, p5]) rfl ?_
  refine Core.post (a := ⟨0, 0, off, []⟩) (ab := sb + 1) ?_
  rw [list_same hi]
  have hC := (HC.out.drewN nq).setAt off
  repeat (first | with_reducible exact hC | with_reducible refine Core.set ?_ _ _)
set_option maxRecDepth 100000 in
set_option maxHeartbeats 2000000 in
theorem file_seek1 (m hb B mb : Nat) (nv av dv : Value) (l : List SN) (h : SH) (s : Stp) (w : World) (hop : s.op = 16) (hM : MemIs w m nv av dv mb) (hH : SHIs w hb h) (hN : NodesIs w B dv l) (hi : h.node < l.length) (hwh : s.wh = 1) (hcl : h.cl = false) (h1 : -4611686018427387904 ≤ h.at_ ∧ h.at_ ≤ 4611686018427387904) (h2 : -1152921504606846976 ≤ s.off ∧ s.off ≤ 1152921504606846976) (h3 : l[h.node].bs.length ≤ 1000000) :
    Calls Tryd.prog 85 #[.pointer (some ⟨m, 0, none⟩), .pointer (some ⟨hb, 0, none⟩), s.val] w (FilePost w hb B dv l h.node ⟨0, 0, (h.at_ + s.off), []⟩ { h with at_ := (h.at_ + s.off) } l[h.node]) := by
  obtain ⟨op, name, other, flag, perm, hh, da, dl, dc, off, wh, n⟩ := s
  obtain ⟨node, at_, listed, cl, ro⟩ := h
  simp only at hop hwh hcl h1 h2 h3 hi ⊢
  subst hop hwh hcl
  obtain ⟨h1a, h1b⟩ := h1
  obtain ⟨h2a, h2b⟩ := h2
  unfold Stp.val
  simp only
  go_enter Tryd.func85, Tryd.ntmps85
  go_upto_region 1 with fail
  obtain ⟨W, hW⟩ : ∃ W, ((w.alloc (.cells #[.int .i64 16, .string name, .string other, .int .i64 flag, .int .i64 perm, .int .i64 hh, .slice da dl dc, .int .i64 off, .int .i64 1, .int .i64 n] tStep)).alloc (.cells #[.int .i64 0, .int .i64 0, .int .i64 0, .slice none 0 0, .slice none 0 0, .slice none 0 0] tAns)) = W := ⟨_, rfl⟩
  have hs0 := two_old w (.cells #[.int .i64 16, .string name, .string other, .int .i64 flag, .int .i64 perm, .int .i64 hh, .slice da dl dc, .int .i64 off, .int .i64 1, .int .i64 n] tStep) (.cells #[.int .i64 0, .int .i64 0, .int .i64 0, .slice none 0 0, .slice none 0 0, .slice none 0 0] tAns)
  have ha0 := two_new w (.cells #[.int .i64 16, .string name, .string other, .int .i64 flag, .int .i64 perm, .int .i64 hh, .slice da dl dc, .int .i64 off, .int .i64 1, .int .i64 n] tStep) (.cells #[.int .i64 0, .int .i64 0, .int .i64 0, .slice none 0 0, .slice none 0 0, .slice none 0 0] tAns)
  have hB0 := two_below w (.cells #[.int .i64 16, .string name, .string other, .int .i64 flag, .int .i64 perm, .int .i64 hh, .slice da dl dc, .int .i64 off, .int .i64 1, .int .i64 n] tStep) (.cells #[.int .i64 0, .int .i64 0, .int .i64 0, .slice none 0 0, .slice none 0 0, .slice none 0 0] tAns)
  rw [hW] at hs0 ha0 hB0
  have hW2 : ∀ {P} {c : Code} {Q : Exit → Act → World → Prop} {a : Act}, c.wp P Q a W → c.wp P Q a _ := fun {P c Q a} h => hW.symm ▸ h
  refine hW2 ?_
  clear hW2 hW
  have hM1 := hM.below hB0
  have hH1 := hH.below hB0
  have hN1 := NodesIs.below hN hB0
  obtain ⟨nb, cap, v, rfl, hle, hnb, ⟨x0, x1, x2, x3, x4⟩, hov, hf, hz⟩ := NodesIs.at hN1 hi
  obtain ⟨vA, vc, rfl, hby⟩ := BytesIn.own hov hf
  have HBY := Lib.hid hby
  clear hby
  have m2 := (cell_of hM1 2).trans rfl
  have c0 := (cell_of hH1 0).trans rfl
  have c1 := (cell_of hH1 1).trans rfl
  have c3 := (cell_of hH1 3).trans rfl
  have c4 := (cell_of hH1 4).trans rfl
  have f1 := free_of hH1 1
  have f3 := free_of hH1 3
  have s0 := (cell_of hs0 0).trans rfl
  have s6 := (cell_of hs0 6).trans rfl
  have s7 := (cell_of hs0 7).trans rfl
  have s8 := (cell_of hs0 8).trans rfl
  have s9 := (cell_of hs0 9).trans rfl
  obtain ⟨⟨p0, p1, p2, p3, p4, p5⟩, q0, q1, q2, q3, q4, q5⟩ := cells6 ha0
  have htab : Typed W (w.heap.size + 1) tAns := Typed.of ha0
  have hcore : Core w W hb B _ l _ (.slice none 0 0) [] (w.heap.size + 1) := ⟨hH1, hN1, Wrote.of_below hB0, World.ownsRow_nil _ _ _ _, htab, Nat.le_add_right _ 1⟩
  have n1 : w.heap.size ≠ hb := blk_ne hs0 hH1 (by decide)
  have n2 : w.heap.size + 1 ≠ hb := blk_ne ha0 hH1 (by decide)
  have n3 : w.heap.size ≠ nb := by obtain ⟨c, hc⟩ := hnb; exact blk_ne hs0 hc (by decide)
  have n4 : w.heap.size + 1 ≠ nb := by obtain ⟨c, hc⟩ := hnb; exact blk_ne ha0 hc (by decide)
  have n5 : hb ≠ nb := by obtain ⟨c, hc⟩ := hnb; exact blk_ne hH1 hc (by decide)
  have HC := Lib.hid hcore
  have HLE := Lib.hid hle
  have HZ := Lib.hid hz
  have z2 := hz (node * 5 + 2)
  have z3 := hz (node * 5 + 3)
  have HF := Lib.hid hf
  have HM := Lib.hid hM1
  have HB0 := Lib.hid hB0
  have HOV := Lib.hid hov
  have HA0 := Lib.hid ha0
  have HS0 := Lib.hid hs0
  clear hle hz hf hN hH hM hN1 hH1 hM1 hB0 hs0 ha0 hov htab hnb hcore
  obtain ⟨sb, hsb⟩ : ∃ sb, w.heap.size = sb := ⟨_, rfl⟩
  rw [hsb] at s0 s6 s7 s8 s9 p0 p1 p2 p3 p4 p5 q0 q1 q2 q3 q4 q5 HC HA0 HS0 n1 n2 n3 n4 ⊢
  have HSB := Lib.hid hsb
  clear hsb
  go_quiet (fail)
  go_upto_region 32 with fail
  have hw : IntKind.i64.wrap (at_ + off) = at_ + off := IntWalk.i64_in _ (by omega)
  refine still_tail' 9 (by kernel_rfl) (by kernel_rfl) ?_
  simp only [List.take_succ_cons, List.take_zero, List.drop_succ_cons, List.drop_zero]
  repeat still_step
  refine wpStill_nil ?_
  clear hw
  go_wp2_with fail
  refine bodyPost_ret (v := ansVal 0 0 (at_ + off) (.slice none 0 0)) (by simp [results, Tryd.results85, go_sem, ansVal, p0, p1, p2, p3, p4, p5]) rfl ?_
  refine Core.post (a := ⟨0, 0, (at_ + off), []⟩) (ab := sb + 1) ?_
  rw [list_same hi]
  have hC := (HC.out.drewN (nq + 1)).setAt (at_ + off)
  repeat (first | with_reducible exact hC | with_reducible refine Core.set ?_ _ _)
set_option maxRecDepth 100000 in
set_option maxHeartbeats 2000000 in
theorem file_seek2 (m hb B mb : Nat) (nv av dv : Value) (l : List SN) (h : SH) (s : Stp) (w : World) (hop : s.op = 16) (hM : MemIs w m nv av dv mb) (hH : SHIs w hb h) (hN : NodesIs w B dv l) (hi : h.node < l.length) (hwh : s.wh = 2) (hcl : h.cl = false) (h1 : -4611686018427387904 ≤ h.at_ ∧ h.at_ ≤ 4611686018427387904) (h2 : -1152921504606846976 ≤ s.off ∧ s.off ≤ 1152921504606846976) (h3 : l[h.node].bs.length ≤ 1000000) :
    Calls Tryd.prog 85 #[.pointer (some ⟨m, 0, none⟩), .pointer (some ⟨hb, 0, none⟩), s.val] w (FilePost w hb B dv l h.node ⟨0, 0, (l[h.node].bs.length + s.off), []⟩ { h with at_ := (l[h.node].bs.length + s.off) } l[h.node]) := by
  obtain ⟨op, name, other, flag, perm, hh, da, dl, dc, off, wh, n⟩ := s
  obtain ⟨node, at_, listed, cl, ro⟩ := h
  simp only at hop hwh hcl h1 h2 h3 hi ⊢
  subst hop hwh hcl
  obtain ⟨h1a, h1b⟩ := h1
  obtain ⟨h2a, h2b⟩ := h2
  unfold Stp.val
  simp only
  go_enter Tryd.func85, Tryd.ntmps85
  go_upto_region 1 with fail
  obtain ⟨W, hW⟩ : ∃ W, ((w.alloc (.cells #[.int .i64 16, .string name, .string other, .int .i64 flag, .int .i64 perm, .int .i64 hh, .slice da dl dc, .int .i64 off, .int .i64 2, .int .i64 n] tStep)).alloc (.cells #[.int .i64 0, .int .i64 0, .int .i64 0, .slice none 0 0, .slice none 0 0, .slice none 0 0] tAns)) = W := ⟨_, rfl⟩
  have hs0 := two_old w (.cells #[.int .i64 16, .string name, .string other, .int .i64 flag, .int .i64 perm, .int .i64 hh, .slice da dl dc, .int .i64 off, .int .i64 2, .int .i64 n] tStep) (.cells #[.int .i64 0, .int .i64 0, .int .i64 0, .slice none 0 0, .slice none 0 0, .slice none 0 0] tAns)
  have ha0 := two_new w (.cells #[.int .i64 16, .string name, .string other, .int .i64 flag, .int .i64 perm, .int .i64 hh, .slice da dl dc, .int .i64 off, .int .i64 2, .int .i64 n] tStep) (.cells #[.int .i64 0, .int .i64 0, .int .i64 0, .slice none 0 0, .slice none 0 0, .slice none 0 0] tAns)
  have hB0 := two_below w (.cells #[.int .i64 16, .string name, .string other, .int .i64 flag, .int .i64 perm, .int .i64 hh, .slice da dl dc, .int .i64 off, .int .i64 2, .int .i64 n] tStep) (.cells #[.int .i64 0, .int .i64 0, .int .i64 0, .slice none 0 0, .slice none 0 0, .slice none 0 0] tAns)
  rw [hW] at hs0 ha0 hB0
  have hW2 : ∀ {P} {c : Code} {Q : Exit → Act → World → Prop} {a : Act}, c.wp P Q a W → c.wp P Q a _ := fun {P c Q a} h => hW.symm ▸ h
  refine hW2 ?_
  clear hW2 hW
  have hM1 := hM.below hB0
  have hH1 := hH.below hB0
  have hN1 := NodesIs.below hN hB0
  obtain ⟨nb, cap, v, rfl, hle, hnb, ⟨x0, x1, x2, x3, x4⟩, hov, hf, hz⟩ := NodesIs.at hN1 hi
  obtain ⟨vA, vc, rfl, hby⟩ := BytesIn.own hov hf
  have HBY := Lib.hid hby
  clear hby
  have m2 := (cell_of hM1 2).trans rfl
  have c0 := (cell_of hH1 0).trans rfl
  have c1 := (cell_of hH1 1).trans rfl
  have c3 := (cell_of hH1 3).trans rfl
  have c4 := (cell_of hH1 4).trans rfl
  have f1 := free_of hH1 1
  have f3 := free_of hH1 3
  have s0 := (cell_of hs0 0).trans rfl
  have s6 := (cell_of hs0 6).trans rfl
  have s7 := (cell_of hs0 7).trans rfl
  have s8 := (cell_of hs0 8).trans rfl
  have s9 := (cell_of hs0 9).trans rfl
  obtain ⟨⟨p0, p1, p2, p3, p4, p5⟩, q0, q1, q2, q3, q4, q5⟩ := cells6 ha0
  have htab : Typed W (w.heap.size + 1) tAns := Typed.of ha0
  have hcore : Core w W hb B _ l _ (.slice none 0 0) [] (w.heap.size + 1) := ⟨hH1, hN1, Wrote.of_below hB0, World.ownsRow_nil _ _ _ _, htab, Nat.le_add_right _ 1⟩
  have n1 : w.heap.size ≠ hb := blk_ne hs0 hH1 (by decide)
  have n2 : w.heap.size + 1 ≠ hb := blk_ne ha0 hH1 (by decide)
  have n3 : w.heap.size ≠ nb := by obtain ⟨c, hc⟩ := hnb; exact blk_ne hs0 hc (by decide)
  have n4 : w.heap.size + 1 ≠ nb := by obtain ⟨c, hc⟩ := hnb; exact blk_ne ha0 hc (by decide)
  have n5 : hb ≠ nb := by obtain ⟨c, hc⟩ := hnb; exact blk_ne hH1 hc (by decide)
  have HC := Lib.hid hcore
  have HLE := Lib.hid hle
  have HZ := Lib.hid hz
  have z2 := hz (node * 5 + 2)
  have z3 := hz (node * 5 + 3)
  have HF := Lib.hid hf
  have HM := Lib.hid hM1
  have HB0 := Lib.hid hB0
  have HOV := Lib.hid hov
  have HA0 := Lib.hid ha0
  have HS0 := Lib.hid hs0
  clear hle hz hf hN hH hM hN1 hH1 hM1 hB0 hs0 ha0 hov htab hnb hcore
  obtain ⟨sb, hsb⟩ : ∃ sb, w.heap.size = sb := ⟨_, rfl⟩
  rw [hsb] at s0 s6 s7 s8 s9 p0 p1 p2 p3 p4 p5 q0 q1 q2 q3 q4 q5 HC HA0 HS0 n1 n2 n3 n4 ⊢
  have HSB := Lib.hid hsb
  clear hsb
  go_quiet (fail)
  go_upto_region 34 with fail
  have hw : IntKind.i64.wrap ((l[node].bs.length : Int) + off) = (l[node].bs.length : Int) + off := IntWalk.i64_in _ (by omega)
  refine still_tail' 11 (by kernel_rfl) (by kernel_rfl) ?_
  simp only [List.take_succ_cons, List.take_zero, List.drop_succ_cons, List.drop_zero]
  repeat still_step
  refine wpStill_nil ?_
  clear hw
  go_wp2_with fail
  refine bodyPost_ret (v := ansVal 0 0 (l[node].bs.length + off) (.slice none 0 0)) (by simp [results, Tryd.results85, go_sem, ansVal, p0, p1, p2, p3, p4, p5]) rfl ?_
  refine Core.post (a := ⟨0, 0, (l[node].bs.length + off), []⟩) (ab := sb + 1) ?_
  rw [list_same hi]
  have hC := (HC.out.drewN (nq + 1)).setAt (l[node].bs.length + off)
  repeat (first | with_reducible exact hC | with_reducible refine Core.set ?_ _ _)
set_option maxRecDepth 100000 in
set_option maxHeartbeats 2000000 in
theorem file_seek3 (m hb B mb : Nat) (nv av dv : Value) (l : List SN) (h : SH) (s : Stp) (w : World) (hop : s.op = 16) (hM : MemIs w m nv av dv mb) (hH : SHIs w hb h) (hN : NodesIs w B dv l) (hi : h.node < l.length) (hwh : s.wh ≠ 0 ∧ s.wh ≠ 1 ∧ s.wh ≠ 2) (hcl : h.cl = false) (h1 : -4611686018427387904 ≤ h.at_ ∧ h.at_ ≤ 4611686018427387904) (h2 : -1152921504606846976 ≤ s.off ∧ s.off ≤ 1152921504606846976) (h3 : l[h.node].bs.length ≤ 1000000) :
    Calls Tryd.prog 85 #[.pointer (some ⟨m, 0, none⟩), .pointer (some ⟨hb, 0, none⟩), s.val] w (FilePost w hb B dv l h.node ⟨0, 0, h.at_, []⟩ h l[h.node]) := by
  obtain ⟨op, name, other, flag, perm, hh, da, dl, dc, off, wh, n⟩ := s
  obtain ⟨node, at_, listed, cl, ro⟩ := h
  simp only at hop hwh hcl h1 h2 h3 hi ⊢
  subst hop hcl
  obtain ⟨h1a, h1b⟩ := h1
  obtain ⟨h2a, h2b⟩ := h2
  unfold Stp.val
  simp only
  go_enter Tryd.func85, Tryd.ntmps85
  go_upto_region 1 with fail
  obtain ⟨W, hW⟩ : ∃ W, ((w.alloc (.cells #[.int .i64 16, .string name, .string other, .int .i64 flag, .int .i64 perm, .int .i64 hh, .slice da dl dc, .int .i64 off, .int .i64 wh, .int .i64 n] tStep)).alloc (.cells #[.int .i64 0, .int .i64 0, .int .i64 0, .slice none 0 0, .slice none 0 0, .slice none 0 0] tAns)) = W := ⟨_, rfl⟩
  have hs0 := two_old w (.cells #[.int .i64 16, .string name, .string other, .int .i64 flag, .int .i64 perm, .int .i64 hh, .slice da dl dc, .int .i64 off, .int .i64 wh, .int .i64 n] tStep) (.cells #[.int .i64 0, .int .i64 0, .int .i64 0, .slice none 0 0, .slice none 0 0, .slice none 0 0] tAns)
  have ha0 := two_new w (.cells #[.int .i64 16, .string name, .string other, .int .i64 flag, .int .i64 perm, .int .i64 hh, .slice da dl dc, .int .i64 off, .int .i64 wh, .int .i64 n] tStep) (.cells #[.int .i64 0, .int .i64 0, .int .i64 0, .slice none 0 0, .slice none 0 0, .slice none 0 0] tAns)
  have hB0 := two_below w (.cells #[.int .i64 16, .string name, .string other, .int .i64 flag, .int .i64 perm, .int .i64 hh, .slice da dl dc, .int .i64 off, .int .i64 wh, .int .i64 n] tStep) (.cells #[.int .i64 0, .int .i64 0, .int .i64 0, .slice none 0 0, .slice none 0 0, .slice none 0 0] tAns)
  rw [hW] at hs0 ha0 hB0
  have hW2 : ∀ {P} {c : Code} {Q : Exit → Act → World → Prop} {a : Act}, c.wp P Q a W → c.wp P Q a _ := fun {P c Q a} h => hW.symm ▸ h
  refine hW2 ?_
  clear hW2 hW
  have hM1 := hM.below hB0
  have hH1 := hH.below hB0
  have hN1 := NodesIs.below hN hB0
  obtain ⟨nb, cap, v, rfl, hle, hnb, ⟨x0, x1, x2, x3, x4⟩, hov, hf, hz⟩ := NodesIs.at hN1 hi
  obtain ⟨vA, vc, rfl, hby⟩ := BytesIn.own hov hf
  have HBY := Lib.hid hby
  clear hby
  have m2 := (cell_of hM1 2).trans rfl
  have c0 := (cell_of hH1 0).trans rfl
  have c1 := (cell_of hH1 1).trans rfl
  have c3 := (cell_of hH1 3).trans rfl
  have c4 := (cell_of hH1 4).trans rfl
  have f1 := free_of hH1 1
  have f3 := free_of hH1 3
  have s0 := (cell_of hs0 0).trans rfl
  have s6 := (cell_of hs0 6).trans rfl
  have s7 := (cell_of hs0 7).trans rfl
  have s8 := (cell_of hs0 8).trans rfl
  have s9 := (cell_of hs0 9).trans rfl
  obtain ⟨⟨p0, p1, p2, p3, p4, p5⟩, q0, q1, q2, q3, q4, q5⟩ := cells6 ha0
  have htab : Typed W (w.heap.size + 1) tAns := Typed.of ha0
  have hcore : Core w W hb B _ l _ (.slice none 0 0) [] (w.heap.size + 1) := ⟨hH1, hN1, Wrote.of_below hB0, World.ownsRow_nil _ _ _ _, htab, Nat.le_add_right _ 1⟩
  have n1 : w.heap.size ≠ hb := blk_ne hs0 hH1 (by decide)
  have n2 : w.heap.size + 1 ≠ hb := blk_ne ha0 hH1 (by decide)
  have n3 : w.heap.size ≠ nb := by obtain ⟨c, hc⟩ := hnb; exact blk_ne hs0 hc (by decide)
  have n4 : w.heap.size + 1 ≠ nb := by obtain ⟨c, hc⟩ := hnb; exact blk_ne ha0 hc (by decide)
  have n5 : hb ≠ nb := by obtain ⟨c, hc⟩ := hnb; exact blk_ne hH1 hc (by decide)
  have HC := Lib.hid hcore
  have HLE := Lib.hid hle
  have HZ := Lib.hid hz
  have z2 := hz (node * 5 + 2)
  have z3 := hz (node * 5 + 3)
  have HF := Lib.hid hf
  have HM := Lib.hid hM1
  have HB0 := Lib.hid hB0
  have HOV := Lib.hid hov
  have HA0 := Lib.hid ha0
  have HS0 := Lib.hid hs0
  clear hle hz hf hN hH hM hN1 hH1 hM1 hB0 hs0 ha0 hov htab hnb hcore
  obtain ⟨sb, hsb⟩ : ∃ sb, w.heap.size = sb := ⟨_, rfl⟩
  rw [hsb] at s0 s6 s7 s8 s9 p0 p1 p2 p3 p4 p5 q0 q1 q2 q3 q4 q5 HC HA0 HS0 n1 n2 n3 n4 ⊢
  have HSB := Lib.hid hsb
  clear hsb
  have e0 : (wh == 0) = false := beq_eq_false_iff_ne.2 hwh.1
  have e1 : (wh == 1) = false := beq_eq_false_iff_ne.2 hwh.2.1
  have e2 : (wh == 2) = false := beq_eq_false_iff_ne.2 hwh.2.2
  clear hwh
  go_quiet (fail)
  go_wp2_with fail
  refine bodyPost_ret (v := ansVal 0 0 at_ (.slice none 0 0)) (by simp [results, Tryd.results85, go_sem, ansVal, p0, p1, p2, p3, p4, p5]) rfl ?_
  refine Core.post (a := ⟨0, 0, at_, []⟩) (ab := sb + 1) ?_
  rw [list_same hi]
  have hC := HC.out.drewN nq
  repeat (first | with_reducible exact hC | with_reducible refine Core.set ?_ _ _)
end Sb
end Go.Proofs.YtnkhfdnahnphdaaDoor
end
section
namespace Go.Proofs.YtnkhfdnahnphdaaDoor
open Go.ChangeShapes Go.WideShapes Go.ChangeAt Go.RowKit Go.Rd
open Go.Proofs.YtnkhfdnahnphdaaDoorW.PrintWords Go.Proofs.YtnkhfdnahnphdaaDoorW.PrintLast Go.Proofs.YtnkhfdnahnphdaaDoorW.PrintMore
set_option linter.unusedVariables false
namespace Sb
open Sa
theorem rdTell_len (l : List Int) (a n : Int) : (rdTell l a n).1.length ≤ n.toNat := by
  unfold rdTell
  split
  · simp
  split
  · simp
  split
  · simp
  · simp; omega
set_option maxRecDepth 100000 in
set_option maxHeartbeats 2000000 in
theorem file_read (m hb B mb : Nat) (nv av dv : Value) (l : List SN) (h : SH) (s : Stp) (w : World) (hop : s.op = 12) (hM : MemIs w m nv av dv mb) (hH : SHIs w hb h) (hN : NodesIs w B dv l) (hi : h.node < l.length) (hcl : h.cl = false) (h1 : -4611686018427387904 ≤ h.at_ ∧ h.at_ ≤ 1152921504606846976) (h2 : s.n ≤ 1000000) (h3 : l[h.node].bs.length ≤ 1000000) (D : List Int) (E : Int) (hR : rdTell l[h.node].bs h.at_ s.n = (D, E)) :
    Calls Tryd.prog 85 #[.pointer (some ⟨m, 0, none⟩), .pointer (some ⟨hb, 0, none⟩), s.val] w (FilePost w hb B dv l h.node ⟨E, 0, 0, D⟩ { h with at_ := h.at_ + D.length } l[h.node]) := by
  obtain ⟨op, name, other, flag, perm, hh, da, dl, dc, off, wh, n⟩ := s
  obtain ⟨node, at_, listed, cl, ro⟩ := h
  simp only at hop hcl h1 h2 h3 hR hi ⊢
  subst hop hcl
  obtain ⟨h1a, h1b⟩ := h1
  have HR := Lib.hid hR
  clear hR
  unfold Stp.val
  simp only
  go_enter Tryd.func85, Tryd.ntmps85
  go_upto_region 1 with fail
  obtain ⟨W, hW⟩ : ∃ W, ((w.alloc (.cells #[.int .i64 12, .string name, .string other, .int .i64 flag, .int .i64 perm, .int .i64 hh, .slice da dl dc, .int .i64 off, .int .i64 wh, .int .i64 n] tStep)).alloc (.cells #[.int .i64 0, .int .i64 0, .int .i64 0, .slice none 0 0, .slice none 0 0, .slice none 0 0] tAns)) = W := ⟨_, rfl⟩
  have hs0 := two_old w (.cells #[.int .i64 12, .string name, .string other, .int .i64 flag, .int .i64 perm, .int .i64 hh, .slice da dl dc, .int .i64 off, .int .i64 wh, .int .i64 n] tStep) (.cells #[.int .i64 0, .int .i64 0, .int .i64 0, .slice none 0 0, .slice none 0 0, .slice none 0 0] tAns)
  have ha0 := two_new w (.cells #[.int .i64 12, .string name, .string other, .int .i64 flag, .int .i64 perm, .int .i64 hh, .slice da dl dc, .int .i64 off, .int .i64 wh, .int .i64 n] tStep) (.cells #[.int .i64 0, .int .i64 0, .int .i64 0, .slice none 0 0, .slice none 0 0, .slice none 0 0] tAns)
  have hB0 := two_below w (.cells #[.int .i64 12, .string name, .string other, .int .i64 flag, .int .i64 perm, .int .i64 hh, .slice da dl dc, .int .i64 off, .int .i64 wh, .int .i64 n] tStep) (.cells #[.int .i64 0, .int .i64 0, .int .i64 0, .slice none 0 0, .slice none 0 0, .slice none 0 0] tAns)
  rw [hW] at hs0 ha0 hB0
  have hW2 : ∀ {P} {c : Code} {Q : Exit → Act → World → Prop} {a : Act}, c.wp P Q a W → c.wp P Q a _ := fun {P c Q a} h => hW.symm ▸ h
  refine hW2 ?_
  clear hW2 hW
  have hM1 := hM.below hB0
  have hH1 := hH.below hB0
  have hN1 := NodesIs.below hN hB0
  obtain ⟨nb, cap, v, rfl, hle, hnb, ⟨x0, x1, x2, x3, x4⟩, hov, hf, hz⟩ := NodesIs.at hN1 hi
  obtain ⟨vA, vc, rfl, hby⟩ := BytesIn.own hov hf
  have HBY := Lib.hid hby
  clear hby
  have m2 := (cell_of hM1 2).trans rfl
  have c0 := (cell_of hH1 0).trans rfl
  have c1 := (cell_of hH1 1).trans rfl
  have c3 := (cell_of hH1 3).trans rfl
  have c4 := (cell_of hH1 4).trans rfl
  have f1 := free_of hH1 1
  have f3 := free_of hH1 3
  have s0 := (cell_of hs0 0).trans rfl
  have s6 := (cell_of hs0 6).trans rfl
  have s7 := (cell_of hs0 7).trans rfl
  have s8 := (cell_of hs0 8).trans rfl
  have s9 := (cell_of hs0 9).trans rfl
  obtain ⟨⟨p0, p1, p2, p3, p4, p5⟩, q0, q1, q2, q3, q4, q5⟩ := cells6 ha0
  have htab : Typed W (w.heap.size + 1) tAns := Typed.of ha0
  have hcore : Core w W hb B _ l _ (.slice none 0 0) [] (w.heap.size + 1) := ⟨hH1, hN1, Wrote.of_below hB0, World.ownsRow_nil _ _ _ _, htab, Nat.le_add_right _ 1⟩
  have n1 : w.heap.size ≠ hb := blk_ne hs0 hH1 (by decide)
  have n2 : w.heap.size + 1 ≠ hb := blk_ne ha0 hH1 (by decide)
  have n3 : w.heap.size ≠ nb := by obtain ⟨c, hc⟩ := hnb; exact blk_ne hs0 hc (by decide)
  have n4 : w.heap.size + 1 ≠ nb := by obtain ⟨c, hc⟩ := hnb; exact blk_ne ha0 hc (by decide)
  have n5 : hb ≠ nb := by obtain ⟨c, hc⟩ := hnb; exact blk_ne hH1 hc (by decide)
  have HC := Lib.hid hcore
  have HLE := Lib.hid hle
  have HZ := Lib.hid hz
  have z2 := hz (node * 5 + 2)
  have z3 := hz (node * 5 + 3)
  have HF := Lib.hid hf
  have HM := Lib.hid hM1
  have HB0 := Lib.hid hB0
  have HOV := Lib.hid hov
  have HA0 := Lib.hid ha0
  have HS0 := Lib.hid hs0
  clear hle hz hf hN hH hM hN1 hH1 hM1 hB0 hs0 ha0 hov htab hnb hcore
  obtain ⟨sb, hsb⟩ : ∃ sb, w.heap.size = sb := ⟨_, rfl⟩
  rw [hsb] at s0 s6 s7 s8 s9 p0 p1 p2 p3 p4 p5 q0 q1 q2 q3 q4 q5 HC HA0 HS0 n1 n2 n3 n4 ⊢
  have HSB := Lib.hid hsb
  clear hsb
  go_quiet (fail)
  go_upto_region 21 with fail
  have hblk : ∀ (k : Nat) (j : Nat) (u : Value) (W' : World), Below W.heap.size W W' → W.cell? ⟨k, j, none⟩ = some u → W'.cell? ⟨k, j, none⟩ = some u := fun k j u W' hb hc => (hb.cell (p := ⟨k, j, none⟩) (cell_lt hc)).trans hc
  have HBK := Lib.hid hblk
  clear hblk
  go_region_held3 (fun w' => w'.cell? ⟨nb, node * 5 + 2, none⟩ = some (.slice vA l[node].bs.length vc) ∧ w'.cell? ⟨hb, 1, none⟩ = some (.int .i64 at_) ∧ w'.cell? ⟨sb, 9, none⟩ = some (.int .i64 n)) (first | go_keep | (go_split_ands; refine ⟨?_, ?_, ?_⟩ <;> assumption)) (first
    | (go_at_call 101; refine (read_any vA l[node].bs.length vc l[node].bs at_ n _ (HBY.out.drewN (nq + 1)) (by omega) (by omega) (by omega)).mono ?_; rintro e W2 ⟨v2, rfl, ho2, hB2⟩; replace hB2 : Below W.heap.size W W2 := (pw_below_drewN (Below.refl _ _) (nq + 1)).trans hB2; have y2 := HBK.out _ _ _ _ hB2 x2; have y1 := HBK.out _ _ _ _ hB2 c1; have y9 := HBK.out _ _ _ _ hB2 s9))
  have hC2 := HC.out.below hB2
  have hdl := rdTell_len l[node].bs at_ n
  rw [HR.out] at hdl ho2 ⊢
  simp only at hdl ho2 ⊢
  clear c0 c1 c3 c4 f1 f3 s0 s6 s7 s8 s9 p0 p1 p2 p3 p4 p5 q0 q1 q2 q3 q4 q5 x0 x1 x2 x3 x4 m2 z2 z3
  have c0 := (cell_of hC2.hand 0).trans rfl
  have c1 := (cell_of hC2.hand 1).trans rfl
  have f1 := free_of hC2.hand 1
  have ha2 := (hB2.block _ (lt_of_heap HA0.out)).trans HA0.out
  have hs2 := (hB2.block _ (lt_of_heap HS0.out)).trans HS0.out
  have s6 := (cell_of hs2 6).trans rfl
  have s7 := (cell_of hs2 7).trans rfl
  obtain ⟨⟨p0, p1, p2, p3, p4, p5⟩, q0, q1, q2, q3, q4, q5⟩ := cells6 ha2
  have hsum : IntKind.i64.wrap (at_ + (D.length : Int)) = at_ + D.length := IntWalk.i64_in _ (by omega)
  obtain ⟨DA, dc2, hv2⟩ := own_slice ho2
  subst hv2
  have HO2 := Lib.hid ho2
  have HC2 := Lib.hid hC2
  clear ho2 hC2 hB2 ha2 hs2 hdl
  go_wp2_with fail
  refine bodyPost_ret (v := ansVal E 0 0 (.slice DA D.length dc2)) (by simp [results, Tryd.results85, go_sem, ansVal, p0, p1, p2, p3, p4, p5]) rfl ?_
  refine Core.post (a := ⟨E, 0, 0, D⟩) (ab := sb + 1) ?_
  rw [list_same hi]
  have hC := (HC2.out.with_ (row_le HO2.out (Nat.le_trans HB0.out.size (Nat.le_refl _)))).setAt (at_ + D.length)
  repeat (first | with_reducible exact hC | with_reducible refine Core.set ?_ _ _)
set_option maxRecDepth 100000 in
set_option maxHeartbeats 2000000 in
theorem file_trunc_neg (m hb B mb : Nat) (nv av dv : Value) (l : List SN) (h : SH) (s : Stp) (w : World) (hop : s.op = 17) (hM : MemIs w m nv av dv mb) (hH : SHIs w hb h) (hN : NodesIs w B dv l) (hi : h.node < l.length) (hcl : h.cl = false) (hro : h.ro = false) (hoff : s.off < 0) :
    Calls Tryd.prog 85 #[.pointer (some ⟨m, 0, none⟩), .pointer (some ⟨hb, 0, none⟩), s.val] w (FilePost w hb B dv l h.node ⟨7, 0, 0, []⟩ h l[h.node]) := by
  obtain ⟨op, name, other, flag, perm, hh, da, dl, dc, off, wh, n⟩ := s
  obtain ⟨node, at_, listed, cl, ro⟩ := h
  simp only at hop hcl hro hoff hi ⊢
  subst hop hcl hro
  unfold Stp.val
  simp only
  go_enter Tryd.func85, Tryd.ntmps85
  go_upto_region 1 with fail
  obtain ⟨W, hW⟩ : ∃ W, ((w.alloc (.cells #[.int .i64 17, .string name, .string other, .int .i64 flag, .int .i64 perm, .int .i64 hh, .slice da dl dc, .int .i64 off, .int .i64 wh, .int .i64 n] tStep)).alloc (.cells #[.int .i64 0, .int .i64 0, .int .i64 0, .slice none 0 0, .slice none 0 0, .slice none 0 0] tAns)) = W := ⟨_, rfl⟩
  have hs0 := two_old w (.cells #[.int .i64 17, .string name, .string other, .int .i64 flag, .int .i64 perm, .int .i64 hh, .slice da dl dc, .int .i64 off, .int .i64 wh, .int .i64 n] tStep) (.cells #[.int .i64 0, .int .i64 0, .int .i64 0, .slice none 0 0, .slice none 0 0, .slice none 0 0] tAns)
  have ha0 := two_new w (.cells #[.int .i64 17, .string name, .string other, .int .i64 flag, .int .i64 perm, .int .i64 hh, .slice da dl dc, .int .i64 off, .int .i64 wh, .int .i64 n] tStep) (.cells #[.int .i64 0, .int .i64 0, .int .i64 0, .slice none 0 0, .slice none 0 0, .slice none 0 0] tAns)
  have hB0 := two_below w (.cells #[.int .i64 17, .string name, .string other, .int .i64 flag, .int .i64 perm, .int .i64 hh, .slice da dl dc, .int .i64 off, .int .i64 wh, .int .i64 n] tStep) (.cells #[.int .i64 0, .int .i64 0, .int .i64 0, .slice none 0 0, .slice none 0 0, .slice none 0 0] tAns)
  rw [hW] at hs0 ha0 hB0
  have hW2 : ∀ {P} {c : Code} {Q : Exit → Act → World → Prop} {a : Act}, c.wp P Q a W → c.wp P Q a _ := fun {P c Q a} h => hW.symm ▸ h
  refine hW2 ?_
  clear hW2 hW
  have hM1 := hM.below hB0
  have hH1 := hH.below hB0
  have hN1 := NodesIs.below hN hB0
  obtain ⟨nb, cap, v, rfl, hle, hnb, ⟨x0, x1, x2, x3, x4⟩, hov, hf, hz⟩ := NodesIs.at hN1 hi
  obtain ⟨vA, vc, rfl, hby⟩ := BytesIn.own hov hf
  have HBY := Lib.hid hby
  clear hby
  have m2 := (cell_of hM1 2).trans rfl
  have c0 := (cell_of hH1 0).trans rfl
  have c1 := (cell_of hH1 1).trans rfl
  have c3 := (cell_of hH1 3).trans rfl
  have c4 := (cell_of hH1 4).trans rfl
  have f1 := free_of hH1 1
  have f3 := free_of hH1 3
  have s0 := (cell_of hs0 0).trans rfl
  have s6 := (cell_of hs0 6).trans rfl
  have s7 := (cell_of hs0 7).trans rfl
  have s8 := (cell_of hs0 8).trans rfl
  have s9 := (cell_of hs0 9).trans rfl
  obtain ⟨⟨p0, p1, p2, p3, p4, p5⟩, q0, q1, q2, q3, q4, q5⟩ := cells6 ha0
  have htab : Typed W (w.heap.size + 1) tAns := Typed.of ha0
  have hcore : Core w W hb B _ l _ (.slice none 0 0) [] (w.heap.size + 1) := ⟨hH1, hN1, Wrote.of_below hB0, World.ownsRow_nil _ _ _ _, htab, Nat.le_add_right _ 1⟩
  have n1 : w.heap.size ≠ hb := blk_ne hs0 hH1 (by decide)
  have n2 : w.heap.size + 1 ≠ hb := blk_ne ha0 hH1 (by decide)
  have n3 : w.heap.size ≠ nb := by obtain ⟨c, hc⟩ := hnb; exact blk_ne hs0 hc (by decide)
  have n4 : w.heap.size + 1 ≠ nb := by obtain ⟨c, hc⟩ := hnb; exact blk_ne ha0 hc (by decide)
  have n5 : hb ≠ nb := by obtain ⟨c, hc⟩ := hnb; exact blk_ne hH1 hc (by decide)
  have HC := Lib.hid hcore
  have HLE := Lib.hid hle
  have HZ := Lib.hid hz
  have z2 := hz (node * 5 + 2)
  have z3 := hz (node * 5 + 3)
  have HF := Lib.hid hf
  have HM := Lib.hid hM1
  have HB0 := Lib.hid hB0
  have HOV := Lib.hid hov
  have HA0 := Lib.hid ha0
  have HS0 := Lib.hid hs0
  clear hle hz hf hN hH hM hN1 hH1 hM1 hB0 hs0 ha0 hov htab hnb hcore
  obtain ⟨sb, hsb⟩ : ∃ sb, w.heap.size = sb := ⟨_, rfl⟩
  rw [hsb] at s0 s6 s7 s8 s9 p0 p1 p2 p3 p4 p5 q0 q1 q2 q3 q4 q5 HC HA0 HS0 n1 n2 n3 n4 ⊢
  have HSB := Lib.hid hsb
  clear hsb
  have e0 : decide (off < 0) = true := decide_eq_true hoff
  go_quiet (fail)
  go_wp2_with fail
  refine bodyPost_ret (v := ansVal 7 0 0 (.slice none 0 0)) (by simp [results, Tryd.results85, go_sem, ansVal, p0, p1, p2, p3, p4, p5]) rfl ?_
  refine Core.post (a := ⟨7, 0, 0, []⟩) (ab := sb + 1) ?_
  rw [list_same hi]
  have hC := HC.out.drewN nq
  repeat (first | with_reducible exact hC | with_reducible refine Core.set ?_ _ _)
end Sb
end Go.Proofs.YtnkhfdnahnphdaaDoor
end
section
namespace Go.Rg
open Go
section
variable {P : Program} {ops : Array Oper} {Q : Exit → Act → World → Prop} {md : Region.Mode} {S : World → Prop} {c : Nat}
/-- S holds till number c has come up; behind it nothing is asked of S. -/
def anyD (P : Program) (md : Region.Mode) (ops : Array Oper) (Q : Exit → Act → World → Prop) (S : World → Prop) (c : Nat) : Nat → Array Bool → Act → World → Prop
  | 0, listed, a, w => wpAny P md ops Q 0 listed a w
  | fuel + 1, listed, a, w =>
    (listed.getD c true = true → wpAny P md ops Q (fuel + 1) listed a w) ∧
    (listed.getD c true = false → (Region.ready md ops listed = [] → Q .normal a w) ∧
      ∀ i ∈ Region.ready md ops listed, wpOp P ops Q i (fun a' w' => (i ≠ c → S w') ∧ anyD P md ops Q S c fuel (listed.setIfInBounds i true) a' w') a w)
theorem any_of : ∀ (fuel : Nat) (listed : Array Bool) (a : Act) (w : World), anyD P md ops Q S c fuel listed a w → wpAny P md ops Q fuel listed a w
  | 0, _, _, _, h => h
  | fuel + 1, listed, a, w, h => by
    cases hl : listed.getD c true with
    | true => exact h.1 hl
    | false => exact ⟨(h.2 hl).1, fun i hi => wpOp_mono (fun a' w' h' => any_of fuel _ a' w' h'.2) ((h.2 hl).2 i hi)⟩
theorem of_any {fuel : Nat} {listed : Array Bool} {a : Act} {w : World} (hl : listed.getD c true = true) (h : wpAny P md ops Q fuel listed a w) : anyD P md ops Q S c fuel listed a w := by
  cases fuel with
  | zero => exact h
  | succ fuel => exact ⟨fun _ => h, fun h0 => by rw [hl] at h0; cases h0⟩
theorem held_of_any : ∀ (fuel : Nat) (listed : Array Bool) (a : Act) (w : World), wpAny P md ops Q fuel listed a w → wpAnyH P md ops Q (fun _ => True) fuel listed a w
  | 0, _, _, _, h => h
  | fuel + 1, _, _, _, h => ⟨h.1, fun i hi => wpOp_mono (fun a' w' h' => ⟨trivial, held_of_any fuel _ a' w' h'⟩) (h.2 i hi)⟩
theorem first {i : Nat} {oi : Oper} {v : Value} (hi : ops[i]? = some oi) (hic : i ≠ c) (hw : Region.waitsFor md ops c i = true) (hsel : ∀ (j : Nat) (o : Oper) cs b, ops[j]? = some o → o.op ≠ .select cs b)
    (hQ : ∀ k a w, Q (.panic k) (a.put oi.dst v) w → Q (.panic k) a w) :
    ∀ (fuel : Nat) (listed : Array Bool) (a : Act) (w : World), listed.getD c true = false →
      (∀ j oj, ops[j]? = some oj → j ≠ i → listed.getD j true = false → (∀ e ∈ oj.after, Region.binds md e = true → e.on ≠ i) → oi.apart ops oj = true) →
      i ∈ Region.ready md ops listed → YieldsIf P ops S oi v a → S w →
      anyD P md ops Q S c fuel (listed.setIfInBounds i true) (a.put oi.dst v) w → anyD P md ops Q S c (fuel + 1) listed a w := by
  intro fuel
  induction fuel with
  | zero =>
    intro listed a w hun _ hr hy hS H
    refine ⟨fun h => (by rw [hun] at h; cases h), fun _ => ⟨fun h => (by rw [h] at hr; cases hr), fun j hj => ?_⟩⟩
    by_cases hji : j = i
    · subst hji; exact hy.wpOp hi hS ⟨fun _ => hS, H⟩
    · have := ready_mono hj hji
      rw [H.1] at this
      cases this
  | succ fuel ih =>
    intro listed a w hun hfree hr hy hS H
    refine ⟨fun h => (by rw [hun] at h; cases h), fun _ => ⟨fun h => (by rw [h] at hr; cases hr), fun j hj => ?_⟩⟩
    by_cases hji : j = i
    · subst hji; exact hy.wpOp hi hS ⟨fun _ => hS, H⟩
    · obtain ⟨hjun, oj, hoj, hall⟩ := mem_ready.1 hj
      have hiun := (mem_ready.1 hr).1
      have hnot : ∀ e ∈ oj.after, Region.binds md e = true → e.on ≠ i := fun e he hb heq => by
        have h1 := hall e he hb
        rw [heq, getD_both hiun] at h1
        cases h1
      have hjc : j ≠ c := fun e => by
        subst e
        obtain ⟨oc, hoc, e, he, hb, hon⟩ := Region.waitsFor_spec hw
        have : oc = oj := Option.some.inj (hoc.symm.trans hoj)
        subst this
        exact hnot e he hb hon
      have h1 := (H.2 (by rw [getD_set_ne true hic]; exact hun)).2 j (ready_mono hj hji)
      have h2 := wpOp_putIf hoj (hfree j oj hoj hji hjun hnot) (fun cs b => hsel i oi cs b hi) (fun cs b => hsel j oj cs b hoj) hQ hy h1
      have hfree' : ∀ k ok, ops[k]? = some ok → k ≠ i → (listed.setIfInBounds j true).getD k true = false →
          (∀ e ∈ ok.after, Region.binds md e = true → e.on ≠ i) → oi.apart ops ok = true := fun k ok hk hki hku hno => by
        refine hfree k ok hk hki ?_ hno
        by_cases hjk : j = k
        · subst hjk; exact hjun
        · rw [getD_set_ne true hjk] at hku; exact hku
      refine wpOp_mono (fun a' w' h3 => ⟨fun _ => h3.2.1 hjc, ih (listed.setIfInBounds j true) a' w' (by rw [getD_set_ne true hjc]; exact hun) hfree' (ready_mono hr (Ne.symm hji)) h3.1 (h3.2.1 hjc) ?_⟩) h2
      rw [Array.setIfInBounds_comm _ _ hji]
      exact h3.2.2
theorem take {i : Nat} {oi : Oper} {v : Value} {fuel : Nat} {listed : Array Bool} {a : Act} {w : World} (hi : ops[i]? = some oi) (hic : decide (i ≠ c) = true) (hw : Region.waitsFor md ops c i = true)
    (hs : Region.noSelect ops = true) (hun : listed.getD c true = false) (hf : Region.free md ops listed i = true) (hr : (Region.ready md ops listed).contains i = true)
    (hQ : ∀ c a w, Q (.panic c) (a.put oi.dst v) w → Q (.panic c) a w) (hy : YieldsIf P ops S oi v a) (hS : S w)
    (h : anyD P md ops Q S c fuel (listed.setIfInBounds i true) (a.put oi.dst v) w) : anyD P md ops Q S c (fuel + 1) listed a w :=
  first hi (of_decide_eq_true hic) hw (Region.noSelect_spec hs) hQ fuel listed a w hun (Region.free_spec hi hf) (by simpa using hr) hy hS h
/-- One operation alone may come up: behind it S is shown anew. -/
theorem one {i : Nat} {o : Oper} {fuel : Nat} {listed : Array Bool} {a : Act} {w : World} (ho : ops[i]? = some o) (hun : listed.getD c true = false) (hr : Region.ready md ops listed = [i])
    (h : ∀ K' : Act → World → Prop, Shut (∀ a w, S w → (S w → anyD P md ops Q S c fuel (listed.setIfInBounds i true) a w) → K' a w) → if Region.wanted o (yielded ops a.tmps) = true then Oper.wp P o a w K' Q else K' (a.put o.dst undef) w) : anyD P md ops Q S c (fuel + 1) listed a w := by
  refine ⟨fun h0 => (by rw [hun] at h0; cases h0), fun _ => ⟨fun h0 => (by rw [hr] at h0; cases h0), fun j hj => ?_⟩⟩
  rw [hr] at hj
  obtain rfl : j = i := by simpa using hj
  exact wpOp_step ho (fun K' hK => h K' (fun a w hS hW => hK a w ⟨fun _ => hS, hW hS⟩))
/-- From number c on the order is forced. -/
theorem rest {fuel : Nat} {listed : Array Bool} {a : Act} {w : World} (l : List Oper) (hl : l = ops.toList.drop c) (hn : l.length = fuel + 1) (hB : Region.seqB md ops (fuel + 1) c listed = true) (hcs : decide (c < listed.size) = true) (h : wpList P ops Q l a w) : anyD P md ops Q S c (fuel + 1) listed a w := by
  have hA : wpAny P md ops Q (fuel + 1) listed a w := by
    have := wpAny_of_seq (P := P) (md := md) (ops := ops) (Q' := Q) l c listed a w (fun j => by rw [hl, List.getElem?_drop, Array.getElem?_toList]) (by rw [hn]; exact hB) h
    rwa [hn] at this
  refine ⟨fun _ => hA, fun _ => ⟨hA.1, fun i hi => wpOp_mono (fun a' w' h' => ⟨fun hic => ?_, ?_⟩) (hA.2 i hi)⟩⟩
  · simp only [Region.seqB, Bool.and_eq_true, decide_eq_true_eq] at hB
    rw [hB.1] at hi
    exact absurd (by simpa using hi) hic
  · simp only [Region.seqB, Bool.and_eq_true, decide_eq_true_eq] at hB
    rw [hB.1] at hi
    obtain rfl : i = c := by simpa using hi
    exact of_any (by have := of_decide_eq_true hcs; simp [this]) h'
/-- The beginning. -/
theorem start {id : Nat} {a : Act} {w : World} (c : Nat) (S : World → Prop) (hm : P.follows .mixedOrders = true) (hS : S w.drew)
    (h : S w.drew → anyD P .any ops Q S c ops.size (Array.replicate ops.size false) a w.drew) : (Code.region id ops true).wp P Q a w :=
  wp_region_any hm (any_of _ _ _ _ (h hS))
/-- The beginning, where one operation that yields the same in every world is taken ahead of all. -/
theorem start1 {id i : Nat} {oi : Oper} {v : Value} {fuel : Nat} {a : Act} {w : World} (c : Nat) (S : World → Prop) (hm : P.follows .mixedOrders = true) (hz : ops.size = fuel + 1) (hi : ops[i]? = some oi) (hs : Region.noSelect ops = true) (hf : Region.free .any ops (Array.replicate ops.size false) i = true)
    (hr : (Region.ready .any ops (Array.replicate ops.size false)).contains i = true) (hQ : ∀ c a w, Q (.panic c) (a.put oi.dst v) w → Q (.panic c) a w) (hy : YieldsIf P ops (fun _ => True) oi v a) (hS : S w.drew)
    (h : S w.drew → anyD P .any ops Q S c fuel ((Array.replicate ops.size false).setIfInBounds i true) (a.put oi.dst v) w.drew) : (Code.region id ops true).wp P Q a w := by
  refine wp_region_any hm (wpAny_of_held _ _ _ _ (S := fun _ => True) ?_)
  rw [hz] at *
  exact wpAnyH_take hi hs hf hr hQ hy trivial (held_of_any _ _ _ _ (any_of _ _ _ _ (h hS)))
end
end Go.Rg
end
