/- Parts of the proof, merged: Sg, Sh, Si. -/
import Derived.Test.YtnkhfdnahnphdaaDoorZc10
import Derived.Test.YtnkhfdnahnphdaaDoorZc15
section
namespace Go.Proofs.YtnkhfdnahnphdaaDoor
open Go.ChangeShapes Go.WideShapes Go.ChangeAt Go.RowKit Go.Rd
open Go.Proofs.YtnkhfdnahnphdaaDoorW.PrintWords Go.Proofs.YtnkhfdnahnphdaaDoorW.PrintLast Go.Proofs.YtnkhfdnahnphdaaDoorW.PrintMore
set_option linter.unusedVariables false
set_option linter.unusedSimpArgs false
namespace Sb
open Sa
theorem Core.step {w W W2 : World} {hb B nb cap n : Nat} {l l' : List SN} {h h' : SH} {v : Value} {d : List Int} {ab : Nat} (c : Core w W hb B (.slice (some ⟨nb, 0, none⟩) n cap) l h v d ab) (hw : Wrote (fun k => k = hb ∨ (Value.slice (some ⟨nb, 0, none⟩) n cap).ownBlock = some k) W W2)
    (hh : SHIs W2 hb h') (hn : NodesIs W2 B (.slice (some ⟨nb, 0, none⟩) n cap) l') (n2 : ab ≠ hb) (n4 : ab ≠ nb) : Core w W2 hb B (.slice (some ⟨nb, 0, none⟩) n cap) l' h' v d ab where
  hand := hh
  nodes := hn
  wr := c.wr.trans hw
  row := own_move c.row (fun k hk => hw.block k (own_lt c.row k hk) (fun hs => by
    obtain ⟨c', hc'⟩ := own_typed c.row k hk
    rcases hs with e | e
    · exact blk_ne hc' c.hand (by decide) e
    · obtain ⟨inner, ho, _⟩ := c.nodes
      obtain ⟨c2, hc2⟩ := own_typed ho k e
      exact blk_ne hc' hc2 (by decide) rfl))
  typ := by
    obtain ⟨c', fr, h⟩ := c.typ
    refine ⟨c', fr, (hw.block _ (lt_of_heap h) (fun hs => ?_)).trans h⟩
    rcases hs with e | e
    · exact n2 e
    · simp only [Value.ownBlock, Option.some.injEq] at e
      exact n4 e.symm
  new := c.new
/-- The world at hand, known by what is said of it alone. -/
theorem world_as {P : Program} {c : Code} {Q : Exit → Act → World → Prop} {a : Act} {w : World} (R : World → Prop) (h1 : R w) (h2 : ∀ W', R W' → c.wp P Q a W') : c.wp P Q a w := h2 _ h1
set_option maxRecDepth 100000 in
set_option maxHeartbeats 2000000 in
theorem list_file (m hb B mb : Nat) (nv av dv : Value) (l : List SN) (h : SH) (s : Stp) (w : World) (hop : s.op = 19 ∨ s.op = 20) (hM : MemIs w m nv av dv mb) (hH : SHIs w hb h) (hN : NodesIs w B dv l) (hi : h.node < l.length) (hdir : l[h.node].dir = false) :
    Calls Tryd.prog 100 #[.pointer (some ⟨m, 0, none⟩), .pointer (some ⟨hb, 0, none⟩), s.val] w (FilePost w hb B dv l h.node ⟨8, 0, 0, []⟩ h l[h.node]) := by
  obtain ⟨op, name, other, flag, perm, hh, da, dl, dc, off, wh, n⟩ := s
  obtain ⟨node, at_, listed, cl, ro⟩ := h
  simp only at hop hdir hi ⊢
  clear hop
  unfold Stp.val
  simp only
  go_enter Tryd.func100, Tryd.ntmps100
  go_upto_region 1 with fail
  obtain ⟨W, hW⟩ : ∃ W, ((w.alloc (.cells #[.int .i64 op, .string name, .string other, .int .i64 flag, .int .i64 perm, .int .i64 hh, .slice da dl dc, .int .i64 off, .int .i64 wh, .int .i64 n] tStep)).alloc (.cells #[.int .i64 0, .int .i64 0, .int .i64 0, .slice none 0 0, .slice none 0 0, .slice none 0 0] tAns)) = W := ⟨_, rfl⟩
  have hs0 := two_old w (.cells #[.int .i64 op, .string name, .string other, .int .i64 flag, .int .i64 perm, .int .i64 hh, .slice da dl dc, .int .i64 off, .int .i64 wh, .int .i64 n] tStep) (.cells #[.int .i64 0, .int .i64 0, .int .i64 0, .slice none 0 0, .slice none 0 0, .slice none 0 0] tAns)
  have ha0 := two_new w (.cells #[.int .i64 op, .string name, .string other, .int .i64 flag, .int .i64 perm, .int .i64 hh, .slice da dl dc, .int .i64 off, .int .i64 wh, .int .i64 n] tStep) (.cells #[.int .i64 0, .int .i64 0, .int .i64 0, .slice none 0 0, .slice none 0 0, .slice none 0 0] tAns)
  have hB0 := two_below w (.cells #[.int .i64 op, .string name, .string other, .int .i64 flag, .int .i64 perm, .int .i64 hh, .slice da dl dc, .int .i64 off, .int .i64 wh, .int .i64 n] tStep) (.cells #[.int .i64 0, .int .i64 0, .int .i64 0, .slice none 0 0, .slice none 0 0, .slice none 0 0] tAns)
  rw [hW] at hs0 ha0 hB0
  have hW2 : ∀ {P} {c : Code} {Q : Exit → Act → World → Prop} {a : Act}, c.wp P Q a W → c.wp P Q a _ := fun {P c Q a} h => hW.symm ▸ h
  refine hW2 ?_
  clear hW2 hW
  have hM1 := hM.below hB0
  have hH1 := hH.below hB0
  have hN1 := NodesIs.below hN hB0
  obtain ⟨nb, cap, v, rfl, hle, hnb, ⟨x0, x1, x2, x3, x4⟩, hov, hf, hz⟩ := NodesIs.at hN1 hi
  obtain ⟨vA, vc, rfl, hby⟩ := BytesIn.own hov hf
  have HBY := Lib.hid hby
  clear hby
  have m2 := (cell_of hM1 2).trans rfl
  have c0 := (cell_of hH1 0).trans rfl
  have c1 := (cell_of hH1 1).trans rfl
  have c3 := (cell_of hH1 3).trans rfl
  have c4 := (cell_of hH1 4).trans rfl
  have f1 := free_of hH1 1
  have f3 := free_of hH1 3
  have s0 := (cell_of hs0 0).trans rfl
  have s1 := (cell_of hs0 1).trans rfl
  have s2 := (cell_of hs0 2).trans rfl
  have s3 := (cell_of hs0 3).trans rfl
  have s4 := (cell_of hs0 4).trans rfl
  have s5 := (cell_of hs0 5).trans rfl
  have s6 := (cell_of hs0 6).trans rfl
  have s7 := (cell_of hs0 7).trans rfl
  have s8 := (cell_of hs0 8).trans rfl
  have s9 := (cell_of hs0 9).trans rfl
  obtain ⟨⟨p0, p1, p2, p3, p4, p5⟩, q0, q1, q2, q3, q4, q5⟩ := cells6 ha0
  have htab : Typed W (w.heap.size + 1) tAns := Typed.of ha0
  have hcore : Core w W hb B _ l _ (.slice none 0 0) [] (w.heap.size + 1) := ⟨hH1, hN1, Wrote.of_below hB0, World.ownsRow_nil _ _ _ _, htab, Nat.le_add_right _ 1⟩
  have n1 : w.heap.size ≠ hb := blk_ne hs0 hH1 (by decide)
  have n2 : w.heap.size + 1 ≠ hb := blk_ne ha0 hH1 (by decide)
  have n3 : w.heap.size ≠ nb := by obtain ⟨c, hc⟩ := hnb; exact blk_ne hs0 hc (by decide)
  have n4 : w.heap.size + 1 ≠ nb := by obtain ⟨c, hc⟩ := hnb; exact blk_ne ha0 hc (by decide)
  have n5 : hb ≠ nb := by obtain ⟨c, hc⟩ := hnb; exact blk_ne hH1 hc (by decide)
  have HC := Lib.hid hcore
  have HLE := Lib.hid hle
  have HZ := Lib.hid hz
  have z2 := hz (node * 5 + 2)
  have z3 := hz (node * 5 + 3)
  have HF := Lib.hid hf
  have HM := Lib.hid hM1
  have HB0 := Lib.hid hB0
  have HOV := Lib.hid hov
  have HA0 := Lib.hid ha0
  have HS0 := Lib.hid hs0
  clear hle hz hf hN hH hM hN1 hH1 hM1 hB0 hs0 ha0 hov htab hnb hcore
  obtain ⟨sb, hsb⟩ : ∃ sb, w.heap.size = sb := ⟨_, rfl⟩
  rw [hsb] at s0 s1 s2 s3 s4 s5 s6 s7 s8 s9 p0 p1 p2 p3 p4 p5 q0 q1 q2 q3 q4 q5 HC HA0 HS0 n1 n2 n3 n4 ⊢
  have HSB := Lib.hid hsb
  clear hsb
  go_region_held3 (fun w' => w'.cell? ⟨m, 2, none⟩ = some (.slice (some ⟨nb, 0, none⟩) l.length cap) ∧ w'.cell? ⟨hb, 0, none⟩ = some (.int .i64 (node : Int)) ∧ w'.cell? ⟨nb, node * 5, none⟩ = some (.bool l[node].dir) ∧ w'.cell? ⟨nb, node * 5 + 1, none⟩ = some (.int .i64 l[node].mode) ∧ w'.cell? ⟨nb, node * 5 + 2, none⟩ = some (.slice vA l[node].bs.length vc) ∧ w'.cell? ⟨nb, node * 5 + 3, none⟩ = some (.int .i64 l[node].time) ∧ w'.cell? ⟨nb, node * 5 + 4, none⟩ = some (.string l[node].nm)) (first | go_keep | (go_split_ands; refine ⟨?_, ?_, ?_, ?_, ?_, ?_, ?_⟩ <;> assumption)) (fail)
  rw [hdir] at *
  go_upto_region 3 with fail
  refine world_as (fun W' => Core w W' hb B (.slice (some ⟨nb, 0, none⟩) l.length cap) l ⟨node, at_, listed, cl, ro⟩ (.slice none 0 0) [] (sb + 1) ∧ W'.heap[sb + 1]? = some (.cells #[.int .i64 0, .int .i64 0, .int .i64 0, .slice none 0 0, .slice none 0 0, .slice none 0 0] tAns (0, 0))) ⟨HC.out.drew.below ((Below.refl _ _).alloc (Nat.le_refl _) _), alloc_keeps (drewN_keeps HA0.out 1) _⟩ (fun W3 hW3 => ?_)
  obtain ⟨hC3, ha3⟩ := hW3
  clear p0 p1 p2 p3 p4 p5 q0 q1 q2 q3 q4 q5
  obtain ⟨⟨p0, p1, p2, p3, p4, p5⟩, q0, q1, q2, q3, q4, q5⟩ := cells6 ha3
  have HC3 := Lib.hid hC3
  clear hC3 ha3
  go_wp2_with fail
  refine bodyPost_ret (v := ansVal 8 0 0 (.slice none 0 0)) (by simp [results, Tryd.results100, go_sem, ansVal, p0, p1, p2, p3, p4, p5]) rfl ?_
  refine Core.post (a := ⟨8, 0, 0, []⟩) (ab := sb + 1) ?_
  rw [list_same hi]
  have hC := HC3.out
  repeat (first | with_reducible exact hC | with_reducible refine Core.set ?_ _ _ | with_reducible refine Core.drew ?_)
set_option maxRecDepth 100000 in
set_option maxHeartbeats 2000000 in
theorem file_list19 (m hb B mb : Nat) (nv av dv : Value) (l : List SN) (h : SH) (s : Stp) (w : World) (hop : s.op = 19) (hM : MemIs w m nv av dv mb) (hH : SHIs w hb h) (hN : NodesIs w B dv l) (hi : h.node < l.length) (hdir : l[h.node].dir = false) :
    Calls Tryd.prog 85 #[.pointer (some ⟨m, 0, none⟩), .pointer (some ⟨hb, 0, none⟩), s.val] w (FilePost w hb B dv l h.node ⟨8, 0, 0, []⟩ h l[h.node]) := by
  obtain ⟨op, name, other, flag, perm, hh, da, dl, dc, off, wh, n⟩ := s
  obtain ⟨node, at_, listed, cl, ro⟩ := h
  simp only at hop hdir hi ⊢
  subst hop
  unfold Stp.val
  simp only
  go_enter Tryd.func85, Tryd.ntmps85
  go_upto_region 1 with fail
  obtain ⟨W, hW⟩ : ∃ W, ((w.alloc (.cells #[.int .i64 19, .string name, .string other, .int .i64 flag, .int .i64 perm, .int .i64 hh, .slice da dl dc, .int .i64 off, .int .i64 wh, .int .i64 n] tStep)).alloc (.cells #[.int .i64 0, .int .i64 0, .int .i64 0, .slice none 0 0, .slice none 0 0, .slice none 0 0] tAns)) = W := ⟨_, rfl⟩
  have hs0 := two_old w (.cells #[.int .i64 19, .string name, .string other, .int .i64 flag, .int .i64 perm, .int .i64 hh, .slice da dl dc, .int .i64 off, .int .i64 wh, .int .i64 n] tStep) (.cells #[.int .i64 0, .int .i64 0, .int .i64 0, .slice none 0 0, .slice none 0 0, .slice none 0 0] tAns)
  have ha0 := two_new w (.cells #[.int .i64 19, .string name, .string other, .int .i64 flag, .int .i64 perm, .int .i64 hh, .slice da dl dc, .int .i64 off, .int .i64 wh, .int .i64 n] tStep) (.cells #[.int .i64 0, .int .i64 0, .int .i64 0, .slice none 0 0, .slice none 0 0, .slice none 0 0] tAns)
  have hB0 := two_below w (.cells #[.int .i64 19, .string name, .string other, .int .i64 flag, .int .i64 perm, .int .i64 hh, .slice da dl dc, .int .i64 off, .int .i64 wh, .int .i64 n] tStep) (.cells #[.int .i64 0, .int .i64 0, .int .i64 0, .slice none 0 0, .slice none 0 0, .slice none 0 0] tAns)
  rw [hW] at hs0 ha0 hB0
  have hW2 : ∀ {P} {c : Code} {Q : Exit → Act → World → Prop} {a : Act}, c.wp P Q a W → c.wp P Q a _ := fun {P c Q a} h => hW.symm ▸ h
  refine hW2 ?_
  clear hW2 hW
  have hM1 := hM.below hB0
  have hH1 := hH.below hB0
  have hN1 := NodesIs.below hN hB0
  obtain ⟨nb, cap, v, rfl, hle, hnb, ⟨x0, x1, x2, x3, x4⟩, hov, hf, hz⟩ := NodesIs.at hN1 hi
  obtain ⟨vA, vc, rfl, hby⟩ := BytesIn.own hov hf
  have HBY := Lib.hid hby
  clear hby
  have m2 := (cell_of hM1 2).trans rfl
  have c0 := (cell_of hH1 0).trans rfl
  have c1 := (cell_of hH1 1).trans rfl
  have c3 := (cell_of hH1 3).trans rfl
  have c4 := (cell_of hH1 4).trans rfl
  have f1 := free_of hH1 1
  have f3 := free_of hH1 3
  have s0 := (cell_of hs0 0).trans rfl
  have s1 := (cell_of hs0 1).trans rfl
  have s2 := (cell_of hs0 2).trans rfl
  have s3 := (cell_of hs0 3).trans rfl
  have s4 := (cell_of hs0 4).trans rfl
  have s5 := (cell_of hs0 5).trans rfl
  have s6 := (cell_of hs0 6).trans rfl
  have s7 := (cell_of hs0 7).trans rfl
  have s8 := (cell_of hs0 8).trans rfl
  have s9 := (cell_of hs0 9).trans rfl
  obtain ⟨⟨p0, p1, p2, p3, p4, p5⟩, q0, q1, q2, q3, q4, q5⟩ := cells6 ha0
  have htab : Typed W (w.heap.size + 1) tAns := Typed.of ha0
  have hcore : Core w W hb B _ l _ (.slice none 0 0) [] (w.heap.size + 1) := ⟨hH1, hN1, Wrote.of_below hB0, World.ownsRow_nil _ _ _ _, htab, Nat.le_add_right _ 1⟩
  have n1 : w.heap.size ≠ hb := blk_ne hs0 hH1 (by decide)
  have n2 : w.heap.size + 1 ≠ hb := blk_ne ha0 hH1 (by decide)
  have n3 : w.heap.size ≠ nb := by obtain ⟨c, hc⟩ := hnb; exact blk_ne hs0 hc (by decide)
  have n4 : w.heap.size + 1 ≠ nb := by obtain ⟨c, hc⟩ := hnb; exact blk_ne ha0 hc (by decide)
  have n5 : hb ≠ nb := by obtain ⟨c, hc⟩ := hnb; exact blk_ne hH1 hc (by decide)
  have HC := Lib.hid hcore
  have HLE := Lib.hid hle
  have HZ := Lib.hid hz
  have z2 := hz (node * 5 + 2)
  have z3 := hz (node * 5 + 3)
  have HF := Lib.hid hf
  have HM := Lib.hid hM1
  have HB0 := Lib.hid hB0
  have HOV := Lib.hid hov
  have HA0 := Lib.hid ha0
  have HS0 := Lib.hid hs0
  clear hle hz hf hN hH hM hN1 hH1 hM1 hB0 hs0 ha0 hov htab hnb hcore
  obtain ⟨sb, hsb⟩ : ∃ sb, w.heap.size = sb := ⟨_, rfl⟩
  rw [hsb] at s0 s1 s2 s3 s4 s5 s6 s7 s8 s9 p0 p1 p2 p3 p4 p5 q0 q1 q2 q3 q4 q5 HC HA0 HS0 n1 n2 n3 n4 ⊢
  have HSB := Lib.hid hsb
  clear hsb
  go_quiet (fail)
  go_upto_region 16 with fail
  go_wp2_with fail
  refine (list_file m hb B mb nv av (.slice (some ⟨nb, 0, none⟩) l.length cap) l ⟨node, at_, listed, cl, ro⟩ ⟨19, name, other, flag, perm, hh, da, dl, dc, off, wh, n⟩ _ (Or.inl rfl) (HM.out.below (pw_below_drewN (Below.refl _ _) nq)) (HC.out.drewN nq).hand (HC.out.drewN nq).nodes hi hdir).mono ?_
  rintro e W2 ⟨v2, rfl, ho2, hh2, hn2, hw2⟩
  simp only [ansVal]
  rw [list_same hi] at hn2
  have hC2 := (HC.out.drewN nq).step hw2 hh2 hn2 n2 n4
  have ha2 := (hw2.block _ (lt_of_heap HA0.out) (fun hs => by rcases hs with e | e; exact n2 e; simp only [Value.ownBlock, Option.some.injEq] at e; exact n4 e.symm)).trans HA0.out
  obtain ⟨VA, vc2, hv2⟩ := own_slice ho2; subst hv2
  clear p0 p1 p2 p3 p4 p5 q0 q1 q2 q3 q4 q5
  obtain ⟨⟨p0, p1, p2, p3, p4, p5⟩, q0, q1, q2, q3, q4, q5⟩ := cells6 ha2
  have HC2 := Lib.hid hC2
  have HO2 := Lib.hid ho2
  clear hC2 ho2 hw2 hh2 hn2 ha2
  go_wp2_with fail
  refine bodyPost_ret (v := ansVal 8 0 0 (.slice VA 0 vc2)) (by simp [results, Tryd.results85, go_sem, ansVal, p0, p1, p2, p3, p4, p5]) rfl ?_
  refine Core.post (a := ⟨8, 0, 0, []⟩) (ab := sb + 1) ?_
  rw [list_same hi]
  have hC : Core w W2 hb B _ l ⟨node, at_, listed, cl, ro⟩ (.slice VA 0 vc2) [] (sb + 1) := HC2.out.with_ (row_le HO2.out (Nat.le_trans HB0.out.size (Nat.le_refl _)))
  repeat (first | with_reducible exact hC | with_reducible refine Core.set ?_ _ _ | with_reducible refine Core.drew ?_)
set_option maxRecDepth 100000 in
set_option maxHeartbeats 2000000 in
theorem file_list20 (m hb B mb : Nat) (nv av dv : Value) (l : List SN) (h : SH) (s : Stp) (w : World) (hop : s.op = 20) (hM : MemIs w m nv av dv mb) (hH : SHIs w hb h) (hN : NodesIs w B dv l) (hi : h.node < l.length) (hdir : l[h.node].dir = false) :
    Calls Tryd.prog 85 #[.pointer (some ⟨m, 0, none⟩), .pointer (some ⟨hb, 0, none⟩), s.val] w (FilePost w hb B dv l h.node ⟨8, 0, 0, []⟩ h l[h.node]) := by
  obtain ⟨op, name, other, flag, perm, hh, da, dl, dc, off, wh, n⟩ := s
  obtain ⟨node, at_, listed, cl, ro⟩ := h
  simp only at hop hdir hi ⊢
  subst hop
  unfold Stp.val
  simp only
  go_enter Tryd.func85, Tryd.ntmps85
  go_upto_region 1 with fail
  obtain ⟨W, hW⟩ : ∃ W, ((w.alloc (.cells #[.int .i64 20, .string name, .string other, .int .i64 flag, .int .i64 perm, .int .i64 hh, .slice da dl dc, .int .i64 off, .int .i64 wh, .int .i64 n] tStep)).alloc (.cells #[.int .i64 0, .int .i64 0, .int .i64 0, .slice none 0 0, .slice none 0 0, .slice none 0 0] tAns)) = W := ⟨_, rfl⟩
  have hs0 := two_old w (.cells #[.int .i64 20, .string name, .string other, .int .i64 flag, .int .i64 perm, .int .i64 hh, .slice da dl dc, .int .i64 off, .int .i64 wh, .int .i64 n] tStep) (.cells #[.int .i64 0, .int .i64 0, .int .i64 0, .slice none 0 0, .slice none 0 0, .slice none 0 0] tAns)
  have ha0 := two_new w (.cells #[.int .i64 20, .string name, .string other, .int .i64 flag, .int .i64 perm, .int .i64 hh, .slice da dl dc, .int .i64 off, .int .i64 wh, .int .i64 n] tStep) (.cells #[.int .i64 0, .int .i64 0, .int .i64 0, .slice none 0 0, .slice none 0 0, .slice none 0 0] tAns)
  have hB0 := two_below w (.cells #[.int .i64 20, .string name, .string other, .int .i64 flag, .int .i64 perm, .int .i64 hh, .slice da dl dc, .int .i64 off, .int .i64 wh, .int .i64 n] tStep) (.cells #[.int .i64 0, .int .i64 0, .int .i64 0, .slice none 0 0, .slice none 0 0, .slice none 0 0] tAns)
  rw [hW] at hs0 ha0 hB0
  have hW2 : ∀ {P} {c : Code} {Q : Exit → Act → World → Prop} {a : Act}, c.wp P Q a W → c.wp P Q a _ := fun {P c Q a} h => hW.symm ▸ h
  refine hW2 ?_
  clear hW2 hW
  have hM1 := hM.below hB0
  have hH1 := hH.below hB0
  have hN1 := NodesIs.below hN hB0
  obtain ⟨nb, cap, v, rfl, hle, hnb, ⟨x0, x1, x2, x3, x4⟩, hov, hf, hz⟩ := NodesIs.at hN1 hi
  obtain ⟨vA, vc, rfl, hby⟩ := BytesIn.own hov hf
  have HBY := Lib.hid hby
  clear hby
  have m2 := (cell_of hM1 2).trans rfl
  have c0 := (cell_of hH1 0).trans rfl
  have c1 := (cell_of hH1 1).trans rfl
  have c3 := (cell_of hH1 3).trans rfl
  have c4 := (cell_of hH1 4).trans rfl
  have f1 := free_of hH1 1
  have f3 := free_of hH1 3
  have s0 := (cell_of hs0 0).trans rfl
  have s1 := (cell_of hs0 1).trans rfl
  have s2 := (cell_of hs0 2).trans rfl
  have s3 := (cell_of hs0 3).trans rfl
  have s4 := (cell_of hs0 4).trans rfl
  have s5 := (cell_of hs0 5).trans rfl
  have s6 := (cell_of hs0 6).trans rfl
  have s7 := (cell_of hs0 7).trans rfl
  have s8 := (cell_of hs0 8).trans rfl
  have s9 := (cell_of hs0 9).trans rfl
  obtain ⟨⟨p0, p1, p2, p3, p4, p5⟩, q0, q1, q2, q3, q4, q5⟩ := cells6 ha0
  have htab : Typed W (w.heap.size + 1) tAns := Typed.of ha0
  have hcore : Core w W hb B _ l _ (.slice none 0 0) [] (w.heap.size + 1) := ⟨hH1, hN1, Wrote.of_below hB0, World.ownsRow_nil _ _ _ _, htab, Nat.le_add_right _ 1⟩
  have n1 : w.heap.size ≠ hb := blk_ne hs0 hH1 (by decide)
  have n2 : w.heap.size + 1 ≠ hb := blk_ne ha0 hH1 (by decide)
  have n3 : w.heap.size ≠ nb := by obtain ⟨c, hc⟩ := hnb; exact blk_ne hs0 hc (by decide)
  have n4 : w.heap.size + 1 ≠ nb := by obtain ⟨c, hc⟩ := hnb; exact blk_ne ha0 hc (by decide)
  have n5 : hb ≠ nb := by obtain ⟨c, hc⟩ := hnb; exact blk_ne hH1 hc (by decide)
  have HC := Lib.hid hcore
  have HLE := Lib.hid hle
  have HZ := Lib.hid hz
  have z2 := hz (node * 5 + 2)
  have z3 := hz (node * 5 + 3)
  have HF := Lib.hid hf
  have HM := Lib.hid hM1
  have HB0 := Lib.hid hB0
  have HOV := Lib.hid hov
  have HA0 := Lib.hid ha0
  have HS0 := Lib.hid hs0
  clear hle hz hf hN hH hM hN1 hH1 hM1 hB0 hs0 ha0 hov htab hnb hcore
  obtain ⟨sb, hsb⟩ : ∃ sb, w.heap.size = sb := ⟨_, rfl⟩
  rw [hsb] at s0 s1 s2 s3 s4 s5 s6 s7 s8 s9 p0 p1 p2 p3 p4 p5 q0 q1 q2 q3 q4 q5 HC HA0 HS0 n1 n2 n3 n4 ⊢
  have HSB := Lib.hid hsb
  clear hsb
  go_quiet (fail)
  go_upto_region 16 with fail
  go_wp2_with fail
  refine (list_file m hb B mb nv av (.slice (some ⟨nb, 0, none⟩) l.length cap) l ⟨node, at_, listed, cl, ro⟩ ⟨20, name, other, flag, perm, hh, da, dl, dc, off, wh, n⟩ _ (Or.inr rfl) (HM.out.below (pw_below_drewN (Below.refl _ _) nq)) (HC.out.drewN nq).hand (HC.out.drewN nq).nodes hi hdir).mono ?_
  rintro e W2 ⟨v2, rfl, ho2, hh2, hn2, hw2⟩
  simp only [ansVal]
  rw [list_same hi] at hn2
  have hC2 := (HC.out.drewN nq).step hw2 hh2 hn2 n2 n4
  have ha2 := (hw2.block _ (lt_of_heap HA0.out) (fun hs => by rcases hs with e | e; exact n2 e; simp only [Value.ownBlock, Option.some.injEq] at e; exact n4 e.symm)).trans HA0.out
  obtain ⟨VA, vc2, hv2⟩ := own_slice ho2; subst hv2
  clear p0 p1 p2 p3 p4 p5 q0 q1 q2 q3 q4 q5
  obtain ⟨⟨p0, p1, p2, p3, p4, p5⟩, q0, q1, q2, q3, q4, q5⟩ := cells6 ha2
  have HC2 := Lib.hid hC2
  have HO2 := Lib.hid ho2
  clear hC2 ho2 hw2 hh2 hn2 ha2
  go_wp2_with fail
  refine bodyPost_ret (v := ansVal 8 0 0 (.slice VA 0 vc2)) (by simp [results, Tryd.results85, go_sem, ansVal, p0, p1, p2, p3, p4, p5]) rfl ?_
  refine Core.post (a := ⟨8, 0, 0, []⟩) (ab := sb + 1) ?_
  rw [list_same hi]
  have hC : Core w W2 hb B _ l ⟨node, at_, listed, cl, ro⟩ (.slice VA 0 vc2) [] (sb + 1) := HC2.out.with_ (row_le HO2.out (Nat.le_trans HB0.out.size (Nat.le_refl _)))
  repeat (first | with_reducible exact hC | with_reducible refine Core.set ?_ _ _ | with_reducible refine Core.drew ?_)
end Sb
end Go.Proofs.YtnkhfdnahnphdaaDoor
end
section
namespace Go.Proofs.YtnkhfdnahnphdaaDoor
open Go.ChangeShapes Go.WideShapes Go.ChangeAt Go.RowKit Go.Rd
open Go.Proofs.YtnkhfdnahnphdaaDoorW.PrintWords Go.Proofs.YtnkhfdnahnphdaaDoorW.PrintLast Go.Proofs.YtnkhfdnahnphdaaDoorW.PrintMore
set_option linter.unusedVariables false
namespace Sb
open Sa
theorem rdTell_eq (s : St) (n : Int) : rdTell s.bs s.at_ n = (rdB s n, rdE s n) := by
  unfold rdTell rdB rdE readE readBs
  by_cases h0 : s.at_ < 0
  · rw [if_pos h0, if_pos h0, if_pos h0]
  rw [if_neg h0, if_neg h0, if_neg h0]
  by_cases h1 : 0 < n ∧ s.at_ = s.bs.length
  · rw [if_pos h1, if_neg (by omega), if_pos (by omega), List.drop_eq_nil_of_le (by omega)]
    simp
  rw [if_neg h1]
  by_cases h2 : (s.bs.length : Int) < s.at_
  · rw [if_pos h2, if_pos (by omega), List.drop_eq_nil_of_le (by omega)]
    simp
  · rw [if_neg h2, if_neg (by omega), if_neg (by omega)]
theorem file_do (m hb B mb k : Nat) (nv av dv : Value) (l : List SN) (h : SH) (x : Sx) (w : World) (hM : MemIs w m nv av dv mb) (hH : SHIs w hb h) (hN : NodesIs w B dv l) (hi : h.node < l.length) (hdir : l[h.node].dir = false)
    (hO : OpU x) (hS : SpkW (stOf h l[h.node]) x) (hG : Good k (stOf h l[h.node])) (hk : k ≤ 1000000) (hb1 : BytesIn w x.1.da x.1.dl x.1.dc x.2) (hB : B ≤ w.heap.size) :
    Calls Tryd.prog 85 #[.pointer (some ⟨m, 0, none⟩), .pointer (some ⟨hb, 0, none⟩), x.1.val] w (FilePost w hb B dv l h.node (doF (stOf h l[h.node]) x).1 (handOf h l[h.node] x) (nodeOf h l[h.node] x)) := by
  obtain ⟨s, b⟩ := x
  simp only at hb1
  have key : ∀ (a : Ans) (h' : SH) (n' : SN), (doF (stOf h l[h.node]) (s, b)).1 = a → handOf h l[h.node] (s, b) = h' → nodeOf h l[h.node] (s, b) = n' → Calls Tryd.prog 85 #[.pointer (some ⟨m, 0, none⟩), .pointer (some ⟨hb, 0, none⟩), s.val] w (FilePost w hb B dv l h.node a h' n') →
      Calls Tryd.prog 85 #[.pointer (some ⟨m, 0, none⟩), .pointer (some ⟨hb, 0, none⟩), s.val] w (FilePost w hb B dv l h.node (doF (stOf h l[h.node]) (s, b)).1 (handOf h l[h.node] (s, b)) (nodeOf h l[h.node] (s, b))) := by
    rintro _ _ _ rfl rfl rfl hc
    exact hc
  obtain ⟨o1, o2, o3, o4, o5⟩ := hO
  simp only at o1 o2 o3 o4 o5
  have g1 := hG.len
  have g2 := hG.lo
  have g3 := hG.hi
  have g4 := hG.fit
  have hbl : b.length = s.dl := hb1.len
  have q1 := hS.dl
  simp only [stOf] at g1 g2 g3 g4 q1
  by_cases e18 : s.op = 18
  · cases hro : h.ro with
    | true => exact key _ _ _ (by simp [doF, e18]) (by simp [handOf, doF, e18]; rfl) (by simp [nodeOf, timeOf, doF, e18, stOf, hro]) (file_close_ro m hb B mb nv av dv l h s w e18 hM hH hN hi hro)
    | false => exact key _ _ _ (by simp [doF, e18]) (by simp [handOf, doF, e18]; rfl) (by simp [nodeOf, timeOf, doF, e18, stOf, hro]) (file_close_rw m hb B mb nv av dv l h s w e18 hM hH hN hi hro)
  by_cases e23 : s.op = 23
  · exact key _ _ _ (by simp [doF, e23]) (by simp [handOf, doF, e23, stOf]) (by simp [nodeOf, timeOf, doF, e23, stOf]) (file_sync m hb B mb nv av dv l h s w e23 hM hH hN hi)
  by_cases e19 : s.op = 19
  · exact key _ _ _ (by simp [doF, e19]) (by simp [handOf, doF, e19, stOf]) (by simp [nodeOf, timeOf, doF, e19, stOf]) (file_list19 m hb B mb nv av dv l h s w e19 hM hH hN hi hdir)
  by_cases e20 : s.op = 20
  · exact key _ _ _ (by simp [doF, e20]) (by simp [handOf, doF, e20, stOf]) (by simp [nodeOf, timeOf, doF, e20, stOf]) (file_list20 m hb B mb nv av dv l h s w e20 hM hH hN hi hdir)
  have e1920 : ¬ (s.op = 19 ∨ s.op = 20) := by omega
  have hop17 : s.op ≤ 17 := by omega
  cases hcl : h.cl with
  | true =>
    exact key _ _ _ (by simp [doF, e18, e23, e1920, stOf, hcl]) (by simp [handOf, doF, e18, e23, e1920, stOf, hcl]; cases h; simp_all) (by simp [nodeOf, timeOf, doF, e18, e23, e1920, stOf, hcl]) (file_closed m hb B mb nv av dv l h s w ⟨o1, hop17⟩ hM hH hN hi hcl)
  | false =>
  obtain ⟨r1, r2, r3, r4⟩ := hS.fits o1 hop17
  simp only at r1 r2 r3 r4
  by_cases e12 : s.op = 12
  · have hat := hS.read e12
    simp only [stOf, hcl] at hat
    have hR := rdTell_eq (stOf h l[h.node]) s.n
    exact key _ _ _ (by simp [doF, e12, stOf, hcl]) (by simp [handOf, doF, e12, stOf, hcl]) (by simp [nodeOf, timeOf, doF, e12, stOf, hcl]) (file_read m hb B mb nv av dv l h s w e12 hM hH hN hi hcl ⟨by omega, by omega⟩ (by omega) (by omega) _ _ hR)
  by_cases e16 : s.op = 16
  · have c1 : -4611686018427387904 ≤ h.at_ ∧ h.at_ ≤ 4611686018427387904 := ⟨by omega, by omega⟩
    have c2 : -1152921504606846976 ≤ s.off ∧ s.off ≤ 1152921504606846976 := ⟨by omega, by omega⟩
    by_cases w0 : s.wh = 0
    · exact key _ _ _ (by simp [doF, e16, stOf, hcl, skTo, w0]) (by simp [handOf, doF, e16, stOf, hcl, skTo, w0]) (by simp [nodeOf, timeOf, doF, e16, stOf, hcl]) (file_seek0 m hb B mb nv av dv l h s w e16 hM hH hN hi w0 hcl c1 c2 (by omega))
    by_cases w1 : s.wh = 1
    · exact key _ _ _ (by simp [doF, e16, stOf, hcl, skTo, w1]) (by simp [handOf, doF, e16, stOf, hcl, skTo, w1]) (by simp [nodeOf, timeOf, doF, e16, stOf, hcl]) (file_seek1 m hb B mb nv av dv l h s w e16 hM hH hN hi w1 hcl c1 c2 (by omega))
    by_cases w2 : s.wh = 2
    · exact key _ _ _ (by simp [doF, e16, stOf, hcl, skTo, w2]) (by simp [handOf, doF, e16, stOf, hcl, skTo, w2]) (by simp [nodeOf, timeOf, doF, e16, stOf, hcl]) (file_seek2 m hb B mb nv av dv l h s w e16 hM hH hN hi w2 hcl c1 c2 (by omega))
    · exact key _ _ _ (by simp [doF, e16, stOf, hcl, skTo, w0, w1, w2]) (by simp [handOf, doF, e16, stOf, hcl, skTo, w0, w1, w2]; cases h; simp_all) (by simp [nodeOf, timeOf, doF, e16, stOf, hcl]) (file_seek3 m hb B mb nv av dv l h s w e16 hM hH hN hi ⟨w0, w1, w2⟩ hcl c1 c2 (by omega))
  by_cases e15 : s.op = 15
  · obtain ⟨a, ha⟩ : ∃ a : Nat, s.off = (a : Int) := ⟨s.off.toNat, by have := (hS.writeAt e15).1; simp only at this; omega⟩
    have ha2 := (hS.writeAt e15).2
    simp only at ha2
    cases hro : h.ro with
    | true => exact key _ _ _ (by simp [doF, e15, stOf, hcl, hro]) (by simp [handOf, doF, e15, stOf, hcl, hro]) (by simp [nodeOf, timeOf, doF, e15, stOf, hcl, hro]) (file_ro_at m hb B mb nv av dv l h s w e15 hM hH hN hi hcl hro)
    | false => exact key _ _ _ (by simp [doF, e15, stOf, hcl, hro]) (by simp [handOf, doF, e15, stOf, hcl, hro, ha]) (by simp [nodeOf, timeOf, doF, e15, stOf, hcl, hro, ha]) (file_writeAt m hb B mb nv av dv l h s w e15 hM hH hN hi a ha (by omega) hcl hro b hb1 (by omega) (by omega) hB)
  by_cases e17 : s.op = 17
  · have ht := hS.trunc e17
    simp only at ht
    cases hro : h.ro with
    | true => exact key _ _ _ (by simp [doF, e17, stOf, hcl, hro]) (by simp [handOf, doF, e17, stOf, hcl, hro]; cases h; simp_all) (by simp [nodeOf, timeOf, doF, e17, stOf, hcl, hro]) (file_ro m hb B mb nv av dv l h s w (.inr e17) hM hH hN hi hcl hro)
    | false =>
      by_cases hneg : s.off < 0
      · exact key _ _ _ (by simp [doF, e17, stOf, hcl, hro, hneg]) (by simp [handOf, doF, e17, stOf, hcl, hro, hneg]; cases h; simp_all) (by simp [nodeOf, timeOf, doF, e17, stOf, hcl, hro, hneg]) (file_trunc_neg m hb B mb nv av dv l h s w e17 hM hH hN hi hcl hro hneg)
      · obtain ⟨a, ha⟩ : ∃ a : Nat, s.off = (a : Int) := ⟨s.off.toNat, by omega⟩
        have hneg' : ¬ ((a : Int) < 0) := by omega
        by_cases hlt : a < l[h.node].bs.length
        · exact key _ _ _ (by simp [doF, e17, stOf, hcl, hro, ha, hneg']) (by simp [handOf, doF, e17, stOf, hcl, hro, ha, hneg']; cases h; simp_all) (by simp [nodeOf, timeOf, doF, e17, stOf, hcl, hro, ha, hneg']) (file_trunc_cut m hb B mb nv av dv l h s w e17 hM hH hN hi hcl hro a ha (by omega) (by omega) hlt hB)
        · exact key _ _ _ (by simp [doF, e17, stOf, hcl, hro, ha, hneg']) (by simp [handOf, doF, e17, stOf, hcl, hro, ha, hneg']; cases h; simp_all) (by simp [nodeOf, timeOf, doF, e17, stOf, hcl, hro, ha, hneg']) (file_trunc_grow m hb B mb nv av dv l h s w e17 hM hH hN hi hcl hro a ha (by omega) (by omega) (by omega) hB)
  have e14 : s.op = 14 := by omega
  cases hro : h.ro with
  | true => exact key _ _ _ (by simp [doF, e14, stOf, hcl, hro]) (by simp [handOf, doF, e14, stOf, hcl, hro]; cases h; simp_all) (by simp [nodeOf, timeOf, doF, e14, stOf, hcl, hro]) (file_ro m hb B mb nv av dv l h s w (.inl e14) hM hH hN hi hcl hro)
  | false =>
    have hw := hS.write e14
    simp only [stOf] at hw
    obtain ⟨a, ha⟩ : ∃ a : Nat, h.at_ = (a : Int) := ⟨h.at_.toNat, by omega⟩
    exact key _ _ _ (by simp [doF, e14, stOf, hcl, hro]) (by simp [handOf, doF, e14, stOf, hcl, hro, ha]) (by simp [nodeOf, timeOf, doF, e14, stOf, hcl, hro, ha]) (file_write m hb B mb nv av dv l h s w e14 hM hH hN hi a ha (by omega) hcl hro b hb1 (by omega) (by omega) hB)
end Sb
end Go.Proofs.YtnkhfdnahnphdaaDoor
end
section
namespace Go.Proofs.YtnkhfdnahnphdaaDoor
open Go.ChangeShapes Go.WideShapes Go.ChangeAt Go.RowKit Go.Rd
open Go.Proofs.YtnkhfdnahnphdaaDoorW.PrintWords Go.Proofs.YtnkhfdnahnphdaaDoorW.PrintLast Go.Proofs.YtnkhfdnahnphdaaDoorW.PrintMore
set_option linter.unusedVariables false
namespace Sb
/-- The names; the nodes' numbers. -/
abbrev NamesIs (w : World) (B : Nat) (v : Value) (l : List ByteArray) : Prop := w.ownsRow B 9 1 v l.length (l.map .string)
abbrev AtsIs (w : World) (B : Nat) (v : Value) (l : List Int) : Prop := w.ownsRow B 3 1 v l.length (l.map (.int .i64))
/-- Where a name stands, or would stand. -/
def placeOf : List ByteArray → ByteArray → Nat × Bool
  | [], _ => (0, false)
  | n :: l, x => if Op.bytesLess n.toList x.toList = true then ((placeOf l x).1 + 1, (placeOf l x).2) else (0, n.toList == x.toList)
theorem placeOf_past (l : List ByteArray) (x : ByteArray) : ∀ k : Nat, k ≤ l.length → (∀ j (hj : j < l.length), j < k → Op.bytesLess l[j].toList x.toList = true) → placeOf l x = ((placeOf (l.drop k) x).1 + k, (placeOf (l.drop k) x).2) := by
  induction l with
  | nil => intro k hk _; simp at hk; subst hk; rfl
  | cons n l ih =>
    intro k hk h
    cases k with
    | zero => simp
    | succ k =>
      have h0 := h 0 (by simp) (by omega)
      have := ih k (by simpa using hk) (fun j hj hjk => h (j + 1) (by simpa using hj) (by omega))
      simp only [List.getElem_cons_zero] at h0
      simp only [placeOf, h0, if_true, List.drop_succ_cons]
      rw [this]
      simp only [Prod.mk.injEq, and_true]
      omega
def PlaceRel (w : World) (l : List ByteArray) (x : ByteArray) (i : Value) (wr : World) : Prop := ∃ k : Nat, k ≤ l.length ∧ i = .int .i64 k ∧ (∀ j (hj : j < l.length), j < k → Op.bytesLess l[j].toList x.toList = true) ∧ wr = w
set_option maxHeartbeats 1000000 in
theorem place_any (m B mb : Nat) (nv av dv : Value) (l : List ByteArray) (x : ByteArray) (w : World) (hM : MemIs w m nv av dv mb) (hN : NamesIs w B nv l) (hl : l.length ≤ 1000000) :
    Calls Tryd.prog 92 #[.pointer (some ⟨m, 0, none⟩), .string x] w fun e w' => e = .returned (.tuple #[.int .i64 (placeOf l x).1, .bool (placeOf l x).2]) ∧ w' = w := by
  obtain ⟨A, c, rfl⟩ := own_slice hN
  have m0 := (cell_of hM 0).trans rfl
  have HN := Lib.hid hN
  clear hN
  go_enter Tryd.func92, Tryd.ntmps92
  go_wp2_with fail
  go_loopw [13] (fun i wr => PlaceRel w l x i wr) (fun i _ => l.length - (intOf i).toNat)
  case atStart => exact ⟨0, Nat.zero_le _, rfl, fun j hj h => absurd h (Nat.not_lt_zero _), rfl⟩
  case round =>
    obtain ⟨k, hk, rfl, hlt, rfl⟩ := hrel
    by_cases hkl : k < l.length
    · obtain ⟨g, hA, hcell⟩ : ∃ g, A = some ⟨g, 0, none⟩ ∧ wr.cell? ⟨g, k, none⟩ = some (.string l[k]) := by
        rcases HN.out.2 with ⟨_, h0⟩ | ⟨g, cap, cur, hv, _⟩
        · omega
        · simp only [Value.slice.injEq] at hv
          obtain ⟨rfl, _, rfl⟩ := hv
          refine ⟨g, rfl, ?_⟩
          rw [HN.out.cellAt k (by omega)]
          simp [hkl]
      subst hA
      have HLT := Lib.hid hlt
      clear hlt
      cases hless : Op.bytesLess l[k].toList x.toList with
      | true =>
        go_wp2_with fail
        refine ⟨⟨k + 1, by omega, by go_num, fun j hj hjk => ?_, rfl⟩, by simp [intOf]; omega⟩
        by_cases e : j = k
        · subst e; exact hless
        · exact HLT.out j hj (by omega)
      | false =>
        go_wp2_with fail
        go_ret2
        have hp := placeOf_past l x k (by omega) HLT.out
        rw [List.drop_eq_getElem_cons hkl] at hp
        simp only [placeOf, hless, Bool.false_eq_true, if_false] at hp
        rw [hp]
        exact ⟨by simp, rfl⟩
    · obtain rfl : k = l.length := by omega
      have hp := placeOf_past l x l.length (Nat.le_refl _) hlt
      rw [List.drop_length] at hp
      simp only [placeOf] at hp
      have HP := Lib.hid hp
      clear hlt hp
      go_wp2_with fail
      go_ret2
      rw [HP.out]
      exact ⟨by simp, rfl⟩
theorem placeOf_has (l : List ByteArray) (x : ByteArray) (h : (placeOf l x).2 = true) : (placeOf l x).1 < l.length := by
  induction l with
  | nil => simp [placeOf] at h
  | cons n l ih =>
    simp only [placeOf] at h ⊢
    split
    · rename_i hn
      rw [if_pos hn] at h
      have := ih h
      simp; omega
    · simp
set_option maxHeartbeats 1000000 in
theorem find_any (m B mb : Nat) (nv av dv : Value) (l : List ByteArray) (ats : List Int) (x : ByteArray) (w : World) (hM : MemIs w m nv av dv mb) (hN : NamesIs w B nv l) (hA : AtsIs w B av ats) (hla : ats.length = l.length) (hl : l.length ≤ 1000000) :
    Calls Tryd.prog 75 #[.pointer (some ⟨m, 0, none⟩), .string x] w fun e w' => e = .returned (.tuple #[.int .i64 (if (placeOf l x).2 = true then ats.getD (placeOf l x).1 0 else 0), .bool (placeOf l x).2]) ∧ w' = w := by
  have hP := place_any m B mb nv av dv l x w hM hN hl
  have hlt := placeOf_has l x
  generalize placeOf l x = pl at *
  obtain ⟨p, b⟩ := pl
  simp only at hP hlt ⊢
  have m1 := (cell_of hM 1).trans rfl
  have HP := Lib.hid hP
  cases b with
  | false =>
    clear hP hN hA hlt
    go_enter Tryd.func75, Tryd.ntmps75
    go_wp2_with (go_at_call 92; refine HP.out.mono ?_; rintro e w1 ⟨rfl, rfl⟩)
    go_ret2
    exact ⟨rfl, rfl⟩
  | true =>
    have hp : p < ats.length := by rw [hla]; exact hlt rfl
    obtain ⟨g, c, hv, hcell⟩ : ∃ g c, av = .slice (some ⟨g, 0, none⟩) ats.length c ∧ w.cell? ⟨g, p, none⟩ = some (.int .i64 (ats.getD p 0)) := by
      rcases hA.2 with ⟨_, h0⟩ | ⟨g, cap, cur, hv, _⟩
      · omega
      · subst hv
        refine ⟨g, cap, rfl, ?_⟩
        rw [hA.cellAt p (by omega)]
        simp [hp]
    subst hv
    obtain ⟨q, hq⟩ : ∃ q, ats.getD p 0 = q := ⟨_, rfl⟩
    rw [hq] at hcell ⊢
    clear hP hN hA hlt hq
    go_enter Tryd.func75, Tryd.ntmps75
    go_wp2_with (go_at_call 92; refine HP.out.mono ?_; rintro e w1 ⟨rfl, rfl⟩)
    go_ret2
    exact ⟨rfl, rfl⟩
end Sb
end Go.Proofs.YtnkhfdnahnphdaaDoor
end
