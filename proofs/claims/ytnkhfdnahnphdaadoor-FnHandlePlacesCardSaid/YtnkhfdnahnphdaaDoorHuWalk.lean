/- FnHandlePlaces: the law's walk, its loop over the deeds. -/
import Derived.Test.YtnkhfdnahnphdaaDoorHtWalk
import Derived.Deep.RegionHeld3
import Derived.Deep.CutBlock
namespace Go.Proofs.YtnkhfdnahnphdaaDoor
open Go.ChangeShapes Go.WideShapes Go.ChangeAt Go.RowKit Go.Rd
set_option linter.unusedVariables false
open Go.Proofs.YtnkhfdnahnphdaaDoorW.PrintWords Go.Proofs.YtnkhfdnahnphdaaDoorW.PrintLast Go.Proofs.YtnkhfdnahnphdaaDoorW.PrintMore

theorem set10 {w : World} {b : Nat} {t : TypeId} {u0 u1 u2 u3 u4 u5 u6 u7 u8 u9 v0 v1 v2 v3 v4 v5 v6 v7 v8 v9 : Value} (h : w.heap[b]? = some (.cells #[u0, u1, u2, u3, u4, u5, u6, u7, u8, u9] t (0, 0))) : ((((((((((w.setCell ⟨b, 0, none⟩ v0).setCell ⟨b, 1, none⟩ v1).setCell ⟨b, 2, none⟩ v2).setCell ⟨b, 3, none⟩ v3).setCell ⟨b, 4, none⟩ v4).setCell ⟨b, 5, none⟩ v5).setCell ⟨b, 6, none⟩ v6).setCell ⟨b, 7, none⟩ v7).setCell ⟨b, 8, none⟩ v8).setCell ⟨b, 9, none⟩ v9).heap[b]? = some (.cells #[v0, v1, v2, v3, v4, v5, v6, v7, v8, v9] t (0, 0)) := by
  have h0 : (w.setCell ⟨b, 0, none⟩ v0).heap[b]? = some (.cells #[v0, u1, u2, u3, u4, u5, u6, u7, u8, u9] t (0, 0)) := Go.Rd.heap_setCell_same (o := 0) h v0
  have h1 : ((w.setCell ⟨b, 0, none⟩ v0).setCell ⟨b, 1, none⟩ v1).heap[b]? = some (.cells #[v0, v1, u2, u3, u4, u5, u6, u7, u8, u9] t (0, 0)) := Go.Rd.heap_setCell_same (o := 1) h0 v1
  have h2 : (((w.setCell ⟨b, 0, none⟩ v0).setCell ⟨b, 1, none⟩ v1).setCell ⟨b, 2, none⟩ v2).heap[b]? = some (.cells #[v0, v1, v2, u3, u4, u5, u6, u7, u8, u9] t (0, 0)) := Go.Rd.heap_setCell_same (o := 2) h1 v2
  have h3 : ((((w.setCell ⟨b, 0, none⟩ v0).setCell ⟨b, 1, none⟩ v1).setCell ⟨b, 2, none⟩ v2).setCell ⟨b, 3, none⟩ v3).heap[b]? = some (.cells #[v0, v1, v2, v3, u4, u5, u6, u7, u8, u9] t (0, 0)) := Go.Rd.heap_setCell_same (o := 3) h2 v3
  have h4 : (((((w.setCell ⟨b, 0, none⟩ v0).setCell ⟨b, 1, none⟩ v1).setCell ⟨b, 2, none⟩ v2).setCell ⟨b, 3, none⟩ v3).setCell ⟨b, 4, none⟩ v4).heap[b]? = some (.cells #[v0, v1, v2, v3, v4, u5, u6, u7, u8, u9] t (0, 0)) := Go.Rd.heap_setCell_same (o := 4) h3 v4
  have h5 : ((((((w.setCell ⟨b, 0, none⟩ v0).setCell ⟨b, 1, none⟩ v1).setCell ⟨b, 2, none⟩ v2).setCell ⟨b, 3, none⟩ v3).setCell ⟨b, 4, none⟩ v4).setCell ⟨b, 5, none⟩ v5).heap[b]? = some (.cells #[v0, v1, v2, v3, v4, v5, u6, u7, u8, u9] t (0, 0)) := Go.Rd.heap_setCell_same (o := 5) h4 v5
  have h6 : (((((((w.setCell ⟨b, 0, none⟩ v0).setCell ⟨b, 1, none⟩ v1).setCell ⟨b, 2, none⟩ v2).setCell ⟨b, 3, none⟩ v3).setCell ⟨b, 4, none⟩ v4).setCell ⟨b, 5, none⟩ v5).setCell ⟨b, 6, none⟩ v6).heap[b]? = some (.cells #[v0, v1, v2, v3, v4, v5, v6, u7, u8, u9] t (0, 0)) := Go.Rd.heap_setCell_same (o := 6) h5 v6
  have h7 : ((((((((w.setCell ⟨b, 0, none⟩ v0).setCell ⟨b, 1, none⟩ v1).setCell ⟨b, 2, none⟩ v2).setCell ⟨b, 3, none⟩ v3).setCell ⟨b, 4, none⟩ v4).setCell ⟨b, 5, none⟩ v5).setCell ⟨b, 6, none⟩ v6).setCell ⟨b, 7, none⟩ v7).heap[b]? = some (.cells #[v0, v1, v2, v3, v4, v5, v6, v7, u8, u9] t (0, 0)) := Go.Rd.heap_setCell_same (o := 7) h6 v7
  have h8 : (((((((((w.setCell ⟨b, 0, none⟩ v0).setCell ⟨b, 1, none⟩ v1).setCell ⟨b, 2, none⟩ v2).setCell ⟨b, 3, none⟩ v3).setCell ⟨b, 4, none⟩ v4).setCell ⟨b, 5, none⟩ v5).setCell ⟨b, 6, none⟩ v6).setCell ⟨b, 7, none⟩ v7).setCell ⟨b, 8, none⟩ v8).heap[b]? = some (.cells #[v0, v1, v2, v3, v4, v5, v6, v7, v8, u9] t (0, 0)) := Go.Rd.heap_setCell_same (o := 8) h7 v8
  have h9 : ((((((((((w.setCell ⟨b, 0, none⟩ v0).setCell ⟨b, 1, none⟩ v1).setCell ⟨b, 2, none⟩ v2).setCell ⟨b, 3, none⟩ v3).setCell ⟨b, 4, none⟩ v4).setCell ⟨b, 5, none⟩ v5).setCell ⟨b, 6, none⟩ v6).setCell ⟨b, 7, none⟩ v7).setCell ⟨b, 8, none⟩ v8).setCell ⟨b, 9, none⟩ v9).heap[b]? = some (.cells #[v0, v1, v2, v3, v4, v5, v6, v7, v8, v9] t (0, 0)) := Go.Rd.heap_setCell_same (o := 9) h8 v9
  exact h9
theorem free10 {w : World} {b : Nat} {t : TypeId} {u0 u1 u2 u3 u4 u5 u6 u7 u8 u9 : Value} (h : w.heap[b]? = some (.cells #[u0, u1, u2, u3, u4, u5, u6, u7, u8, u9] t (0, 0))) : w.frozen? ⟨b, 0, none⟩ = false ∧ w.frozen? ⟨b, 1, none⟩ = false ∧ w.frozen? ⟨b, 2, none⟩ = false ∧ w.frozen? ⟨b, 3, none⟩ = false ∧ w.frozen? ⟨b, 4, none⟩ = false ∧ w.frozen? ⟨b, 5, none⟩ = false ∧ w.frozen? ⟨b, 6, none⟩ = false ∧ w.frozen? ⟨b, 7, none⟩ = false ∧ w.frozen? ⟨b, 8, none⟩ = false ∧ w.frozen? ⟨b, 9, none⟩ = false :=
  ⟨free_of h 0, free_of h 1, free_of h 2, free_of h 3, free_of h 4, free_of h 5, free_of h 6, free_of h 7, free_of h 8, free_of h 9⟩
theorem set10_below {B b : Nat} {w : World} {v0 v1 v2 v3 v4 v5 v6 v7 v8 v9 : Value} (h : B ≤ b) : Below B w ((((((((((w.setCell ⟨b, 0, none⟩ v0).setCell ⟨b, 1, none⟩ v1).setCell ⟨b, 2, none⟩ v2).setCell ⟨b, 3, none⟩ v3).setCell ⟨b, 4, none⟩ v4).setCell ⟨b, 5, none⟩ v5).setCell ⟨b, 6, none⟩ v6).setCell ⟨b, 7, none⟩ v7).setCell ⟨b, 8, none⟩ v8).setCell ⟨b, 9, none⟩ v9) := ((((((((((Below.refl B w).setCell (p := ⟨b, 0, none⟩) h v0).setCell (p := ⟨b, 1, none⟩) h v1).setCell (p := ⟨b, 2, none⟩) h v2).setCell (p := ⟨b, 3, none⟩) h v3).setCell (p := ⟨b, 4, none⟩) h v4).setCell (p := ⟨b, 5, none⟩) h v5).setCell (p := ⟨b, 6, none⟩) h v6).setCell (p := ⟨b, 7, none⟩) h v7).setCell (p := ⟨b, 8, none⟩) h v8).setCell (p := ⟨b, 9, none⟩) h v9
theorem box_below1 (w : World) (o : Obj) : Below w.heap.size w (w.alloc o).drew := ((Below.refl _ _).alloc (Nat.le_refl _) o).drew
theorem box_below2 (w : World) (o o2 : Obj) : Below w.heap.size w ((w.alloc o).drew.alloc o2) := ((Below.refl _ _).alloc (Nat.le_refl _) o).drew.alloc (by show w.heap.size ≤ (w.alloc o).heap.size; simp) o2
theorem box_new2 (w : World) (o o2 : Obj) : ((w.alloc o).drew.alloc o2).heap[w.heap.size + 1]? = some o2 := by
  have := alloc_new (w.alloc o).drew o2
  have e : (w.alloc o).drew.heap.size = w.heap.size + 1 := by show (w.alloc o).heap.size = _; simp
  rwa [e] at this
theorem box_old2 (w : World) (o o2 : Obj) : ((w.alloc o).drew.alloc o2).heap[w.heap.size]? = some o := alloc_keeps (w := (w.alloc o).drew) (alloc_new w o) o2
/-- Behind the step's making: its box, the deed's box, and the file's length. -/
def HpBox (w wr : World) (op hh : Int) (d : Nat) (sl : Value) (n : Nat) (v11 v12 : Value) (wx : World) : Prop :=
  ∃ bx, v11 = .pointer (some ⟨bx, 0, none⟩) ∧ v12 = .int .i64 (n : Int) ∧ wx.heap[bx]? = some (.cells #[.int .i64 0, .string ⟨#[]⟩, .string ⟨#[]⟩, .int .i64 0, .int .i64 0, .int .i64 0, sl, .int .i64 (d : Int), .int .i64 0, .int .i64 (d : Int)] 33 (0, 0)) ∧
    wx.heap[wr.heap.size]? = some (.cells #[.int .i64 op, .int .i64 hh, .int .i64 (d : Int), sl] 31 (0, 0)) ∧ Below wr.heap.size wr wx ∧ wr.heap.size < bx
/-- The state of the law's loop. -/
def HpRel (w : World) (data : List Int) (mb : Nat) (vS vL vA i : Value) (n : Nat) (wr : World) : Prop :=
  ∃ (k a : Nat) (L : List (Stp × List Int)) (As : List Ans) (l : List Lain), i = .int .i64 k ∧ k ≤ n ∧ vA = .int .i64 a ∧ a ≤ 9000 ∧ Hid (RunsE ⟨0, false, false, data⟩ L As ⟨(a : Int), false, false, fileOf l⟩) ∧ Hid (L.length = k) ∧ Hid (As.length = k) ∧ l.length ≤ k + 1 ∧
    Hid (∀ x ∈ l, LainFit x) ∧ Hid (∀ c ∈ fileOf l, 0 ≤ c ∧ c ≤ 255) ∧ OwnRow (StepK w) 33 10 wr w.heap.size vS L ∧ OwnRow (LainK w) 27 3 wr w.heap.size vL l ∧ ReadsOk wr mb As ∧ w.heap.size ≤ mb ∧ Below w.heap.size w wr

/-- No block of S is of type t. -/
def NotOf (w : World) (S : Nat → Prop) (t : TypeId) : Prop := ∀ k, S k → ¬ Typed w k t
theorem OwnRow.wroteT {α : Type} {R : α → List Value → Prop} {e : TypeId} {size base : Nat} {w w' : World} {v : Value} {ps : List α} {S : Nat → Prop} (h : OwnRow R e size w base v ps) (hw : Wrote S w w') (hs : NotOf w S e) : OwnRow R e size w' base v ps := by
  obtain ⟨inner, h1, h2⟩ := h
  exact ⟨inner, own_move h1 (fun k hk => hw.block k (own_lt h1 k hk) (fun hS => by obtain ⟨cells, hc⟩ := own_typed h1 k hk; exact hs k hS (Typed.of hc))), h2⟩
theorem typed_one {w : World} {k : Nat} {c : Array Value} {t t' : TypeId} {fr : Nat × Nat} (h : w.heap[k]? = some (.cells c t fr)) (ht : Typed w k t') : t = t' := by
  obtain ⟨c2, fr2, h2⟩ := ht
  rw [h] at h2
  injection h2 with h2
  injection h2
/-- The blocks that a round may write: the row of what was laid, and the map. -/
abbrev HpS (vL : Value) (mb k : Nat) : Prop := vL.ownBlock = some k ∨ k = mb
theorem hpS_not {w w0 : World} {B mb : Nat} {vL : Value} {l : List Lain} {As : List Ans} (hL : OwnRow (LainK w0) 27 3 w B vL l) (hM : ReadsOk w mb As) {t : TypeId} (ht : t ≠ 27) : NotOf w (HpS vL mb) t := by
  obtain ⟨m, D, ⟨es, clock, hb, _⟩, _⟩ := hM
  obtain ⟨inner, h1, _⟩ := hL
  rintro k (e | rfl) hk
  · obtain ⟨cells, hc⟩ := own_typed h1 k e
    exact ht (typed_one hc hk).symm
  · obtain ⟨c, fr, h⟩ := hk
    rw [hb] at h
    cases h
theorem lain_no {w w0 : World} {B : Nat} {vL : Value} {l : List Lain} (hL : OwnRow (LainK w0) 27 3 w B vL l) {t : TypeId} (ht : t ≠ 27) : NotOf w (fun k => vL.ownBlock = some k) t := by
  obtain ⟨inner, h1, _⟩ := hL
  intro k e hk
  obtain ⟨cells, hc⟩ := own_typed h1 k e
  exact ht (typed_one hc hk).symm
theorem lain_nb {w w0 : World} {B : Nat} {vL : Value} {l : List Lain} (hL : OwnRow (LainK w0) 27 3 w B vL l) : NoBytes w (fun k => vL.ownBlock = some k) := by
  obtain ⟨inner, h1, _⟩ := hL
  intro k e
  obtain ⟨cells, hc⟩ := own_typed h1 k e
  exact ⟨_, _, _, hc, by decide⟩
/-- Behind a step's kind: what the step is, and what it brings. -/
def HpStep (w wr : World) (mb bx a : Nat) (l : List Lain) (As : List Ans) (vL v6 v7 : Value) (wy : World) : Prop :=
  ∃ (s : Stp) (zs : List Int) (ans : Ans) (a2 : Nat) (l2 : List Lain), v7 = .int .i64 a2 ∧ a2 ≤ 9000 ∧ Hid (StepOkE ⟨(a : Int), false, false, fileOf l⟩ (s, zs) ans ⟨(a2 : Int), false, false, fileOf l2⟩) ∧ BytesIn w s.da s.dl s.dc zs ∧
    wy.heap[bx]? = some (.cells s.cells.toArray 33 (0, 0)) ∧ l2.length ≤ l.length + 1 ∧ Hid (∀ x ∈ l2, LainFit x) ∧ Hid (∀ c ∈ fileOf l2, 0 ≤ c ∧ c ≤ 255) ∧ OwnRow (LainK w) 27 3 wy w.heap.size v6 l2 ∧ ReadsOk wy mb (As ++ [ans]) ∧ Wrote (HpS vL mb) wr wy
theorem cells4 {w : World} {b : Nat} {t : TypeId} {v0 v1 v2 v3 : Value} (h : w.heap[b]? = some (.cells #[v0, v1, v2, v3] t (0, 0))) : w.cell? ⟨b, 0, none⟩ = some v0 ∧ w.cell? ⟨b, 1, none⟩ = some v1 ∧ w.cell? ⟨b, 2, none⟩ = some v2 ∧ w.cell? ⟨b, 3, none⟩ = some v3 :=
  ⟨(cell_of h 0).trans rfl, (cell_of h 1).trans rfl, (cell_of h 2).trans rfl, (cell_of h 3).trans rfl⟩
theorem reads_below {w w' : World} {mb : Nat} {As : List Ans} (h : ReadsOk w mb As) (hb : Below w.heap.size w w') : ReadsOk w' mb As := h.wrote (S := fun _ => False) (Wrote.of_below hb) (fun _ e => e.elim)
theorem lain_bytes {l : List Lain} (x : Lain) (h : ∀ c ∈ fileOf l, 0 ≤ c ∧ c ≤ 255) (hb : ∀ c ∈ x.b, 0 ≤ c ∧ c ≤ 255) : ∀ c ∈ fileOf (l ++ [x]), 0 ≤ c ∧ c ≤ 255 := by
  have hp : ∀ p, 0 ≤ byteAtP l p ∧ byteAtP l p ≤ 255 := fun p => by
    by_cases e : p < lenOfL l
    · exact h _ (List.mem_map.2 ⟨p, List.mem_range.2 e, rfl⟩)
    · rw [byte_beyond l p (by omega)]; omega
  intro c hc
  obtain ⟨p, _, rfl⟩ := List.mem_map.1 hc
  rw [byteAt_snoc]
  split
  · omega
  · split
    · rename_i h1
      rw [List.getD_eq_getElem?_getD, List.getElem?_eq_getElem (show p - x.at_ < x.b.length by omega)]
      exact hb _ (List.getElem_mem _)
    · exact hp p
theorem info27 : (Tryd.prog.info? 27).map (fun i => (i.zero, i.size, i.bytes)) = some (some (.agg #[.int .i64 0, .slice none 0 0, .bool false]), 3, 40) := by kernel_rfl
theorem info33 : (Tryd.prog.info? 33).map (fun i => (i.zero, i.size, i.bytes)) = some (some (.agg #[.int .i64 0, .string ⟨#[]⟩, .string ⟨#[]⟩, .int .i64 0, .int .i64 0, .int .i64 0, .slice none 0 0, .int .i64 0, .int .i64 0, .int .i64 0]), 10, 112) := by kernel_rfl

theorem after_lain {w W w1 : World} {B bx dx mb : Nat} {v : Value} {l : List Lain} {As : List Ans} {cb cd : Array Value} (hL : OwnRow (LainK w) 27 3 W B v l) (hg : W.grownBy w1 v.ownBlock) (hM : ReadsOk W mb As) (kb : W.heap[bx]? = some (.cells cb 33 (0, 0))) (kd : W.heap[dx]? = some (.cells cd 31 (0, 0))) :
    ReadsOk w1 mb As ∧ w1.heap[bx]? = some (.cells cb 33 (0, 0)) ∧ w1.heap[dx]? = some (.cells cd 31 (0, 0)) ∧ Wrote (HpS v mb) W w1 := by
  have hw := wrote_grown hg
  refine ⟨hM.wrote hw (lain_nb hL), ?_, ?_, hw.mono (fun k _ h => .inl h)⟩
  · exact (hw.block bx (lt_of_heap kb) (fun e => lain_no hL (by decide) bx e (Typed.of kb))).trans kb
  · exact (hw.block dx (lt_of_heap kd) (fun e => lain_no hL (by decide) dx e (Typed.of kd))).trans kd
theorem ReadsOk.set {w : World} {mb bx : Nat} {As : List Ans} {cb : Array Value} (h : ReadsOk w mb As) (kb : w.heap[bx]? = some (.cells cb 33 (0, 0))) (j : Nat) (u : Value) : ReadsOk (w.setCell ⟨bx, j, none⟩ u) mb As :=
  h.wrote (S := fun k => k = bx) (Wrote.setCell (p := ⟨bx, j, none⟩) (Wrote.refl (fun k => k = bx) w) (fun _ => rfl) u) (fun k e => by subst e; exact ⟨_, _, _, kb, by decide⟩)
theorem seven (op : Int) (h : (Lit.int .i64 op).wf = true) : (wrap64 (op.tmod 7 + 7)).tmod 7 = 0 ∨ (wrap64 (op.tmod 7 + 7)).tmod 7 = 1 ∨ (wrap64 (op.tmod 7 + 7)).tmod 7 = 2 ∨ (wrap64 (op.tmod 7 + 7)).tmod 7 = 3 ∨ (wrap64 (op.tmod 7 + 7)).tmod 7 = 4 ∨ (wrap64 (op.tmod 7 + 7)).tmod 7 = 5 ∨ (wrap64 (op.tmod 7 + 7)).tmod 7 = 6 := by
  have h1 : -7 < op.tmod 7 ∧ op.tmod 7 < 7 := ⟨Int.lt_tmod_of_pos op (by decide), Int.tmod_lt_of_pos op (by decide)⟩
  have h2 : wrap64 (op.tmod 7 + 7) = op.tmod 7 + 7 := by unfold wrap64; omega
  rw [h2, Int.tmod_eq_emod_of_nonneg (by omega)]
  omega
theorem lenOf_le (l : List Lain) (h : ∀ x ∈ l, LainFit x) : lenOfL l ≤ 8192 := by
  have := lenOf_bd l h l.length
  rwa [List.take_length] at this
theorem fit_snoc {l : List Lain} {x : Lain} (h : ∀ y ∈ l, LainFit y) (hx : LainFit x) : ∀ y ∈ l ++ [x], LainFit y := by
  intro y hy
  rcases List.mem_append.1 hy with e | e
  · exact h y e
  · obtain rfl := List.mem_singleton.1 e
    exact hx
theorem set_bx {bx : Nat} {a b : World} (h : Wrote (fun k => k = bx) a b) {j : Nat} {u : Value} : Wrote (fun k => k = bx) a (b.setCell ⟨bx, j, none⟩ u) := Wrote.setCell (p := ⟨bx, j, none⟩) h (fun _ => rfl) u
theorem Wrote.drew_ {S : Nat → Prop} {a b : World} (h : Wrote S a b) : Wrote S a b.drew := ⟨h.os, h.tape, h.output, h.size, h.block⟩
theorem row_no {α : Type} {R : α → List Value → Prop} {w : World} {e size B : Nat} {v : Value} {l : List α} (hL : OwnRow R e size w B v l) {t : TypeId} (ht : t ≠ e) : NotOf w (fun k => v.ownBlock = some k) t := by
  obtain ⟨inner, h1, _⟩ := hL
  intro k e hk
  obtain ⟨cells, hc⟩ := own_typed h1 k e
  exact ht (typed_one hc hk).symm
theorem row_nb {α : Type} {R : α → List Value → Prop} {w : World} {e size B : Nat} {v : Value} {l : List α} (hL : OwnRow R e size w B v l) (ht : e ≠ 5) : NoBytes w (fun k => v.ownBlock = some k) := by
  obtain ⟨inner, h1, _⟩ := hL
  intro k e
  obtain ⟨cells, hc⟩ := own_typed h1 k e
  exact ⟨_, _, _, hc, ht⟩
theorem hpS_base {w w0 : World} {B mb : Nat} {vL : Value} {l : List Lain} (hL : OwnRow (LainK w0) 27 3 w B vL l) (hmb : B ≤ mb) : ∀ k, k < B → ¬ HpS vL mb k := by
  obtain ⟨inner, h1, _⟩ := hL
  rintro k hk (e | rfl)
  · have := own_base h1 k e
    omega
  · omega
theorem after_sets {w wr W W' : World} {B bx mb : Nat} {v : Value} {l : List Lain} {As : List Ans} {cb : Array Value} {ans : Ans} (hbx : wr.heap.size ≤ bx) (hW0 : Below wr.heap.size wr W) (hW : Wrote (fun k => k = bx) W W') (kb : W.heap[bx]? = some (.cells cb 33 (0, 0))) (hL : OwnRow (LainK w) 27 3 W B v l) (hM : ReadsOk W mb As) :
    OwnRow (LainK w) 27 3 W' B v l ∧ ReadsOk W' mb (As ++ [ans]) ∧ Wrote (HpS v mb) wr W' :=
  ⟨OwnRow.wroteT hL hW (by rintro k rfl hk; exact absurd (typed_one kb hk) (by decide)), (hM.wrote hW (by rintro k rfl; exact ⟨_, _, _, kb, by decide⟩)).more _, Wrote.of_below (hW0.trans (hW.below hW0.size (fun k hk e => by omega)))⟩
/-- The state of the loop that says what is due. -/
def DueRel (w6 : World) (B : Nat) (l : List Lain) (a d : Nat) (v13 v14 : Value) (wx : World) : Prop :=
  ∃ p : Nat, a ≤ p ∧ p ≤ a + min d (lenOfL l - a) ∧ v14 = .int .i64 (p : Int) ∧ wx.ownsRow B 5 1 v13 (p - a) (((List.range (p - a)).map (fun i => byteAtP l (a + i))).map (Value.int .u8)) ∧ v13.ownBlock ≠ none ∧ Below B w6 wx
theorem info5 : (Tryd.prog.info? 5).map (fun i => (i.zero, i.size, i.bytes)) = some (some (.int .u8 0), 1, 1) := by kernel_rfl
open Maps in
theorem key_int {n : Nat} (h : n ≤ 1000) : keyOf Tryd.prog 3 (.int .i64 (n : Int)) = some (.int .i64 (n : Int)) := keyOf_int_mk Tryd.underlying3 (by simp [Lit.wf, IntKind.min, IntKind.max, IntKind.bits, IntKind.signed]; omega)
theorem due_start (W : World) (n : Nat) (hn : n = W.heap.size) (l : List Lain) (a d : Nat) : DueRel W W.heap.size l a d (.slice (some ⟨n, 0, none⟩) 0 0) (.int .i64 (a : Int)) (W.alloc (.cells #[] 5)) := by
  subst hn
  refine ⟨a, Nat.le_refl _, Nat.le_add_right _ _, rfl, ?_, by simp [Value.ownBlock], (Below.refl _ _).alloc (Nat.le_refl _) _⟩
  rw [Nat.sub_self]
  exact own_lit W W.heap.size 5 .u8 [] (Nat.le_refl _) (by simp)
theorem due_more {w6 wx w7 : World} {B : Nat} {l : List Lain} {a d p : Nat} {v v1 : Value} (h1 : a ≤ p) (hlt : p < a + min d (lenOfL l - a)) (hv : v.ownBlock ≠ none) (hat : v1.ownBlock = v.ownBlock ∨ ∃ b, v1.ownBlock = some b ∧ wx.heap.size ≤ b)
    (ho : w7.ownsRow B 5 1 v1 (p - a + 1) ((((List.range (p - a)).map (fun i => byteAtP l (a + i))).map (Value.int .u8)) ++ [.int .u8 (byteAtP l p)])) (hb : Below B w6 w7) : DueRel w6 B l a d v1 (.int .i64 ((p : Int) + 1)) w7 := by
  refine ⟨p + 1, by omega, by omega, by go_num, ?_, ?_, hb⟩
  · have e : p + 1 - a = p - a + 1 := by omega
    rw [e, List.range_succ, List.map_append, List.map_append]
    have e2 : a + (p - a) = p := by omega
    simp only [List.map_cons, List.map_nil, e2]
    exact ho
  · rcases hat with e | ⟨b, e, _⟩
    · rw [e]; exact hv
    · rw [e]; simp
theorem lay_bytes {l : List Lain} (h : ∀ c ∈ fileOf l, 0 ≤ c ∧ c ≤ 255) (p : Nat) : 0 ≤ byteAtP l p ∧ byteAtP l p ≤ 255 := by
  by_cases e : p < lenOfL l
  · exact h _ (List.mem_map.2 ⟨p, List.mem_range.2 e, rfl⟩)
  · rw [byte_beyond l p (by omega)]; omega
theorem due_done {wx : World} {B : Nat} {l : List Lain} {a d : Nat} {v : Value} (hff : ∀ c ∈ fileOf l, 0 ≤ c ∧ c ≤ 255) (hv : v.ownBlock ≠ none) (ho : wx.ownsRow B 5 1 v (min d (lenOfL l - a)) (((List.range (min d (lenOfL l - a))).map (fun i => byteAtP l (a + i))).map (Value.int .u8))) :
    ∃ b c, v = .slice (some ⟨b, 0, none⟩) (min d (lenOfL l - a)) c ∧ BytesIn wx (some ⟨b, 0, none⟩) (readBs (fileOf l) a d).length c (readBs (fileOf l) a d) ∧ Typed wx b 5 ∧ B ≤ b ∧ min d (lenOfL l - a) = (readBs (fileOf l) a d).length := by
  have hf : ∀ c ∈ (List.range (min d (lenOfL l - a))).map (fun i => byteAtP l (a + i)), 0 ≤ c ∧ c ≤ 255 := by
    intro c hc
    obtain ⟨i, _, rfl⟩ := List.mem_map.1 hc
    exact lay_bytes hff _
  have el : (readBs (fileOf l) a d).length = min d (lenOfL l - a) := by
    unfold readBs
    rw [← due_eq]; simp
  rcases BytesIn.of_own ho hf with ⟨rfl, _, _⟩ | ⟨g, cap, rfl, hb⟩
  · exact absurd rfl hv
  · refine ⟨g, cap, rfl, ?_, ?_, own_base ho g rfl, el.symm⟩
    · rw [el]
      unfold readBs
      rw [← due_eq]
      exact hb
    · obtain ⟨cells, hc⟩ := own_typed ho g rfl
      exact Typed.of hc
theorem ans_data {w : World} {B : Nat} {v : Value} {l : List Ans} (hO : OwnRow (AnsK w (fun _ => False)) 42 6 w B v l) (hne : 0 < l.length) :
    ∃ g c, v = .slice (some ⟨g, 0, none⟩) l.length c ∧ l.length ≤ c ∧ g < w.heap.size ∧ ∀ i a, l[i]? = some a → ∃ A k, w.cell? ⟨g, i * 6 + 3, none⟩ = some (.slice A a.data.length k) ∧ BytesIn w A a.data.length k a.data := by
  obtain ⟨inner, hin, hri⟩ := hO
  obtain ⟨g, c, rfl, _, _⟩ := hin.form hne
  have hlc : l.length ≤ c := own_cap hin
  refine ⟨g, c, rfl, hlc, own_lt hin g rfl, fun i a ha => ?_⟩
  obtain ⟨A, k, e, hb, _⟩ := hri.2 i a ha
  have hg := hin.cells (g := g) rfl
  have g' : ∀ j u, ((inner.drop (i * 6)).take 6)[j]? = some u → w.cell? ⟨g, i * 6 + j, none⟩ = some u := fun j u hu => by
    have hj : j < 6 := by
      have := (List.getElem?_eq_some_iff.1 hu).1
      simp at this; omega
    rw [List.getElem?_take_of_lt hj, List.getElem?_drop] at hu
    have := hg _ _ hu
    rwa [addr_add, Nat.zero_add] at this
  rw [e] at g'
  exact ⟨A, k, g' 3 _ rfl, hb⟩
theorem use_k {P : Program} {c : Code} {Q : Exit → Act → World → Prop} {K : Act → World → Prop} {a : Act} {w : World} (h : ∀ (a : Act) (w : World), Code.wp P c Q a w → K a w) (h2 : Code.wp P c Q a w) : K a w := h a w h2
theorem hp_start {w w1 : World} {x : Lain} {cs : List Value} (hB1 : Below w.heap.size w w1) (hx : LainK w x cs) :
    OwnRow (StepK w) 33 10 (((w1.alloc (.cells #[] 33)).alloc (.cells cs.toArray 27)).alloc (.map #[] 0)) w.heap.size (.slice (some ⟨w1.heap.size, 0, none⟩) 0 0) [] ∧
    OwnRow (LainK w) 27 3 (((w1.alloc (.cells #[] 33)).alloc (.cells cs.toArray 27)).alloc (.map #[] 0)) w.heap.size (.slice (some ⟨w1.heap.size + 1, 0, none⟩) 1 1) [x] ∧
    ReadsOk (((w1.alloc (.cells #[] 33)).alloc (.cells cs.toArray 27)).alloc (.map #[] 0)) (w1.heap.size + 1 + 1) [] ∧
    Below w.heap.size w (((w1.alloc (.cells #[] 33)).alloc (.cells cs.toArray 27)).alloc (.map #[] 0)) := by
  have h1 := hB1.size
  refine ⟨?_, ?_, ?_, ((hB1.alloc h1 _).alloc (by simp; omega) _).alloc (by simp; omega) _⟩
  · exact ((OwnRow.lit (e := 33) (R := StepK w) (size := 10) (ps := []) w1 w.heap.size (Reps.none _ _) h1 (by decide)).below ((Below.refl _ _).alloc (Nat.le_refl _) _)).below ((Below.refl _ _).alloc (Nat.le_refl _) _)
  · have h := OwnRow.lit (e := 27) (R := LainK w) (size := 3) (ps := [x]) (inner := cs) (w1.alloc (.cells #[] 33)) w.heap.size (by
      have := Reps.front (R := LainK w) (size := 3) (c := cs) (cs := []) (all := cs) hx (by obtain ⟨A, c, rfl, _⟩ := hx; rfl) (Reps.none _ _) (by simp)
      exact this) (by simp; omega) (by simp)
    rw [World.size_alloc] at h
    exact h.below ((Below.refl _ _).alloc (Nat.le_refl _) _)
  · have h := ReadsOk.start ((w1.alloc (.cells #[] 33)).alloc (.cells cs.toArray 27))
    rw [World.size_alloc, World.size_alloc] at h
    exact h

set_option maxRecDepth 100000 in
set_option maxHeartbeats 4000000 in
theorem hp_walk (dA : Option Addr) (dm dc : Nat) (data : List Int) (eA : Option Addr) (en ec : Nat) (w : World) (hd : BytesIn w dA dm dc data) (hr : IsRows deedKs w eA en ec) (hdm : dm ≤ 500) (hen : en ≤ 40) (hse : ∃ ad, Sents w.heap.size w ad) :
    Calls Tryd.prog 3 #[.slice dA dm dc, .slice eA en ec] w fun e w' => e = .returned (.bool true) ∧ Below w.heap.size w w' := by
  have hdl := hd.len
  have HDL := Lib.hid hdl
  have HSE := Lib.hid hse
  have HR := Lib.hid hr
  have HD := Lib.hid hd
  have h9 := fits13_any eA en ec w hr (by omega)
  have H9 := Lib.hid h9
  clear hdl hse hr hd h9
  have gd : decide ((2147483647 : Int) < (dm : Int)) = false := decide_eq_false (by omega)
  have hmm := @run_makeMap Tryd.prog
  go_enter Tryd.func3, Tryd.ntmps3
  go_wp2_with fail
  refine H9.out.mono ?_
  rintro e w1 ⟨r, rfl, hB1⟩
  cases r with
  | false =>
    go_wp2
    go_ret
    exact ⟨rfl, hB1⟩
  | true =>
    go_wp2_with fail
    have hdK : LainK w ⟨0, data, false⟩ [.int .i64 0, .slice dA dm dc, .bool false] := by
      have e := HDL.out
      subst e
      exact ⟨dA, dc, rfl, HD.out⟩
    obtain ⟨hS0, hL0, hM0, hB0⟩ := hp_start hB1 hdK
    clear hdK
    go_loopw [5, 6, 7, 45] (fun vS vL vA i wr => HpRel w data (w1.heap.size + 1 + 1) vS vL vA i en wr) (fun _ _ _ i _ => en - (intOf i).toNat)
    case atStart =>
      refine ⟨0, 0, [], [], [⟨0, data, false⟩], rfl, Nat.zero_le _, rfl, by omega, Lib.hid ?_, Lib.hid rfl, Lib.hid rfl, by simp, Lib.hid ?_, Lib.hid ?_, hS0, hL0, hM0, by have := hB1.size; omega, hB0⟩
      · rw [fileOf_one]; exact .nil _
      · intro x hx
        obtain rfl := List.mem_singleton.1 hx
        exact ⟨Nat.zero_le _, by show data.length ≤ _; rw [HDL.out]; omega⟩
      · rw [fileOf_one]; exact HD.out.fits
    case round =>
      obtain ⟨k, a, L, As, l, rfl, hk, rfl, ha, hRun, hLk, hAk, hll, hlf, hff, hS, hL, hM, hmb, hB⟩ := hrel
      by_cases hlt : k < en
      · obtain ⟨b, off, op, hh, at_, A2, n2, c2, zs, rfl, hbl, x0, x1, x2, x3, hby, hw1, hw2⟩ := deed_at HR.out k hlt
        have y0 := (hB.cell (p := ⟨b, off + k * 4, none⟩) hbl).trans x0
        have y1 := (hB.cell (p := ⟨b, off + k * 4 + 1, none⟩) hbl).trans x1
        have y2 := (hB.cell (p := ⟨b, off + k * 4 + 2, none⟩) hbl).trans x2
        have y3 := (hB.cell (p := ⟨b, off + k * 4 + 3, none⟩) hbl).trans x3
        have hBY := Lib.hid hby
        clear x0 x1 x2 x3 hby
        by_cases g1 : 0 ≤ at_ ∧ at_ ≤ 1000 ∧ n2 ≤ 200 ∧ a ≤ 1000
        · obtain ⟨g1, g2, g3, g4⟩ := g1
          obtain ⟨d, rfl⟩ := Int.eq_ofNat_of_zero_le g1
          go_wp2_with fail
          obtain ⟨Al, cl, rfl, _, hLr⟩ := hL.reads
          have hlen := length_any Al cl l w
          have HLEN := Lib.hid hlen
          clear hlen
          go_cut [11, 12] (fun v11 v12 wx => HpBox w wr op hh d (.slice A2 n2 c2) (lenOfL l) v11 v12 wx)
          case first =>
            go_region_held3 (fun w' => w'.cell? ⟨wr.heap.size, 2, none⟩ = some (.int .i64 d) ∧ w'.cell? ⟨wr.heap.size, 3, none⟩ = some (.slice A2 n2 c2)) (first | go_keep | (go_split_ands; refine ⟨?_, ?_⟩ <;> assumption)) (first
              | (go_at_call 10; refine (HLEN.out _ (hLr.imp_ (box_below2 _ _ _) (fun _ _ h => h)) hlf.out (by omega)).mono ?_; rintro e w2 ⟨rfl, hB2⟩; have hB3 := (box_below2 _ _ _).trans (hB2.mono (box_below2 _ _ _).size); have k1 := (hB2.block (wr.heap.size + 1) (lt_of_heap (box_new2 _ _ _))).trans (box_new2 _ _ _); have k2 := (hB2.block wr.heap.size (lt_of_heap (box_old2 _ _ _))).trans (box_old2 _ _ _); obtain ⟨m0, m1, m2, m3, m4, m5, m6, m7, m8, m9⟩ := cells10 k1; obtain ⟨n0, n1, n2', n3, n4, n5, n6, n7, n8, n9⟩ := free10 k1; have hsz2 := lt_of_heap k2; have z2 := (cell_of k2 2).trans rfl; have z3 := (cell_of k2 3).trans rfl)
              | (go_at_call 10; refine (HLEN.out _ (hLr.imp_ (box_below1 _ _) (fun _ _ h => h)) hlf.out (by omega)).mono ?_; rintro e w2 ⟨rfl, hB2⟩; have hB3 := (box_below1 _ _).trans (hB2.mono (box_below1 _ _).size); have k2 := (hB2.block wr.heap.size (lt_of_heap (alloc_new _ _))).trans (alloc_new _ _); have hsz2 := lt_of_heap k2; have z2 := (cell_of k2 2).trans rfl; have z3 := (cell_of k2 3).trans rfl))
            · go_wp2_with fail
              go_meet
              exact ⟨_, rfl, rfl, alloc_new _ _, alloc_keeps k2 _, hB3.alloc (Nat.le_of_lt hsz2) _, hsz2⟩
            · go_wp2_with fail
              go_meet
              exact ⟨_, rfl, rfl, set10 k1, ((set10_below (B := wr.heap.size + 1) (Nat.le_refl _)).block _ (Nat.lt_succ_self _)).trans k2, hB3.trans (set10_below (Nat.le_succ _)), Nat.lt_succ_self _⟩
          case rest =>
            obtain ⟨bx, rfl, rfl, kb, kd, hBx, hbx⟩ := hcut
            have hLx := hL.below hBx
            have hMx := reads_below hM hBx
            obtain ⟨x0, x1, x2, x3⟩ := cells4 kd
            obtain ⟨m0, m1, m2, m3, m4, m5, m6, m7, m8, m9⟩ := cells10 kb
            obtain ⟨n0, n1, n2', n3, n4, n5, n6, n7, n8, n9⟩ := free10 kb
            clear y0 y1 y2 y3
            go_upto_block 2 with fail
            have h7 := seven op hw1
            generalize (wrap64 (op.tmod 7 + 7)).tmod 7 = z at h7 ⊢
            go_cut [6, 7] (fun v6 v7 wy => HpStep w wr (w1.heap.size + 1 + 1) bx a l As (.slice Al l.length cl) v6 v7 wy)
            case first =>
              have hBw := hB.trans (hBx.mono hB.size)
              have hbz := hBY.out.len
              subst hbz
              have hlb := lenOf_le l hlf.out
              have hne1 : ¬ bx = wr.heap.size := by omega
              have hne2 : ¬ wr.heap.size = bx := by omega
              rcases h7 with rfl | rfl | rfl | rfl | rfl | rfl | rfl
              · go_wp2_with (at_builtin; refine OwnRow.append (w0 := w) (R := LainK w) w.heap.size rfl (.tmp 83) (.tmp 88) 28 27 (.agg #[.int .i64 0, .slice none 0 0, .bool false]) 3 40 rfl Tryd.underlying28 info27 rfl (by decide) (by decide) _ l ⟨a, zs, false⟩ [.int .i64 a, .slice A2 zs.length c2, .bool false] rfl (by simp [Act.eval]) ⟨A2, c2, rfl, hBY.out⟩ rfl (by simp [Value.oneCell']) hLx hBw hBw.size (by omega) ?_; intro v1 w3 hO1 hB1' hg1 hat1; obtain ⟨hM3, kb3, kd3, hW3⟩ := after_lain hLx hg1 hMx kb kd; obtain ⟨r0, r1, r2, r3⟩ := cells4 kd3; have f0 := free_of kb3 0; have s0 := (cell_of kb3 0).trans rfl)
                go_meet
                refine ⟨⟨14, ⟨#[]⟩, ⟨#[]⟩, 0, 0, 0, A2, zs.length, c2, d, 0, d⟩, zs, ⟨0, zs.length, 0, []⟩, (a + zs.length), (l ++ [⟨a, zs, false⟩]), by go_num, by omega, Lib.hid ?_, hBY.out, Go.Rd.heap_setCell_same (o := 0) kb3 _, by simp, Lib.hid (fit_snoc hlf.out ⟨by show a ≤ _; omega, by show zs.length ≤ _; omega⟩), Lib.hid (lain_bytes _ hff.out hBY.out.fits), OwnRow.set_ hO1 kb3 (by decide) _ _, (hM3.set kb3 _ _).more _, wrote_new (Wrote.of_below hBx |>.trans hW3) (by show _ ≤ bx; omega) _⟩
                rw [fileOf_lay, Int.natCast_add]; exact okE_write ⟨(a : Int), false, false, fileOf l⟩ _ zs a rfl rfl rfl rfl (by omega) (by show zs.length ≤ _; omega) (by show (fileOf l).length ≤ _; rw [fileOf_length]; omega)
              · go_wp2_with (at_builtin; refine OwnRow.append (w0 := w) (R := LainK w) w.heap.size rfl (.tmp 98) (.tmp 104) 28 27 (.agg #[.int .i64 0, .slice none 0 0, .bool false]) 3 40 rfl Tryd.underlying28 info27 rfl (by decide) (by decide) _ l ⟨d, zs, false⟩ [.int .i64 d, .slice A2 zs.length c2, .bool false] rfl (by simp [Act.eval]) ⟨A2, c2, rfl, hBY.out⟩ rfl (by simp [Value.oneCell']) hLx hBw hBw.size (by omega) ?_; intro v1 w3 hO1 hB1' hg1 hat1; obtain ⟨hM3, kb3, kd3, hW3⟩ := after_lain hLx hg1 hMx kb kd; obtain ⟨r0, r1, r2, r3⟩ := cells4 kd3; have f0 := free_of kb3 0; have s0 := (cell_of kb3 0).trans rfl)
                go_meet
                refine ⟨⟨15, ⟨#[]⟩, ⟨#[]⟩, 0, 0, 0, A2, zs.length, c2, d, 0, d⟩, zs, ⟨0, zs.length, 0, []⟩, (d + zs.length), (l ++ [⟨d, zs, false⟩]), by go_num, by omega, Lib.hid ?_, hBY.out, Go.Rd.heap_setCell_same (o := 0) kb3 _, by simp, Lib.hid (fit_snoc hlf.out ⟨by show d ≤ _; omega, by show zs.length ≤ _; omega⟩), Lib.hid (lain_bytes _ hff.out hBY.out.fits), OwnRow.set_ hO1 kb3 (by decide) _ _, (hM3.set kb3 _ _).more _, wrote_new (Wrote.of_below hBx |>.trans hW3) (by show _ ≤ bx; omega) _⟩
                rw [fileOf_lay, Int.natCast_add]; exact okE_write_at ⟨(a : Int), false, false, fileOf l⟩ _ zs d rfl rfl rfl rfl (by omega) (by show zs.length ≤ _; omega) (by show (fileOf l).length ≤ _; rw [fileOf_length]; omega)
              · go_upto_region 20 with fail
                go_region
                all_goals
                  go_wp2_with fail
                  go_meet
                  refine ⟨⟨16, ⟨#[]⟩, ⟨#[]⟩, 0, 0, 0, A2, zs.length, c2, (d : Int), 0, d⟩, zs, ⟨0, 0, (d : Int), []⟩, d, l, by go_num, by omega, Lib.hid ?_, hBY.out, Go.Rd.heap_setCell_same (kb) _, by omega, hlf, hff, after_sets (Nat.le_of_lt hbx) hBx (Wrote.drew_ (set_bx (Wrote.refl _ _))) kb hLx hMx⟩
                  have hst := (ok_seek ⟨(a : Int), false, false, fileOf l⟩ ⟨16, ⟨#[]⟩, ⟨#[]⟩, 0, 0, 0, A2, zs.length, c2, (d : Int), 0, d⟩ zs rfl rfl ⟨by show (_ : Int) ≤ (a : Int); omega, by show (a : Int) ≤ _; omega⟩ ⟨by show (_ : Int) ≤ (d : Int); omega, by show (d : Int) ≤ (_ : Int); omega⟩ (by show (fileOf l).length ≤ _; rw [fileOf_length]; omega) ((d : Int)) (by simp [seekTo])).toE
                  exact hst
              · go_upto_region 22 with fail
                go_region
                all_goals
                  go_wp2_with fail
                  go_meet
                  refine ⟨⟨16, ⟨#[]⟩, ⟨#[]⟩, 0, 0, 0, A2, zs.length, c2, (d : Int), 1, d⟩, zs, ⟨0, 0, ((a + d : Nat) : Int), []⟩, (a + d), l, by go_num, by omega, Lib.hid ?_, hBY.out, Go.Rd.heap_setCell_same (Go.Rd.heap_setCell_same (kb) _) _, by omega, hlf, hff, after_sets (Nat.le_of_lt hbx) hBx (Wrote.drew_ (set_bx (set_bx (Wrote.refl _ _)))) kb hLx hMx⟩
                  have hst := (ok_seek ⟨(a : Int), false, false, fileOf l⟩ ⟨16, ⟨#[]⟩, ⟨#[]⟩, 0, 0, 0, A2, zs.length, c2, (d : Int), 1, d⟩ zs rfl rfl ⟨by show (_ : Int) ≤ (a : Int); omega, by show (a : Int) ≤ _; omega⟩ ⟨by show (_ : Int) ≤ (d : Int); omega, by show (d : Int) ≤ (_ : Int); omega⟩ (by show (fileOf l).length ≤ _; rw [fileOf_length]; omega) (((a + d : Nat) : Int)) (by simp [seekTo])).toE
                  exact hst
              · by_cases hd : d ≤ lenOfL l
                · go_upto_region 26 with fail
                  go_region
                  all_goals
                    go_wp2_with fail
                    go_meet
                    refine ⟨⟨16, ⟨#[]⟩, ⟨#[]⟩, 0, 0, 0, A2, zs.length, c2, (-(d : Int)), 2, d⟩, zs, ⟨0, 0, ((lenOfL l - d : Nat) : Int), []⟩, (lenOfL l - d), l, by congr 1; omega, by omega, Lib.hid ?_, hBY.out, Go.Rd.heap_setCell_same (Go.Rd.heap_setCell_same (Go.Rd.heap_setCell_same (kb) _) _) _, by omega, hlf, hff, after_sets (Nat.le_of_lt hbx) hBx (Wrote.drew_ (set_bx (set_bx (set_bx (Wrote.refl _ _))))) kb hLx hMx⟩
                    have hst := (ok_seek ⟨(a : Int), false, false, fileOf l⟩ ⟨16, ⟨#[]⟩, ⟨#[]⟩, 0, 0, 0, A2, zs.length, c2, (-(d : Int)), 2, d⟩ zs rfl rfl ⟨by show (_ : Int) ≤ (a : Int); omega, by show (a : Int) ≤ _; omega⟩ ⟨by show (_ : Int) ≤ (-(d : Int)); omega, by show (-(d : Int)) ≤ (_ : Int); omega⟩ (by show (fileOf l).length ≤ _; rw [fileOf_length]; omega) (((lenOfL l - d : Nat) : Int)) (by simp [seekTo, fileOf_length]; omega)).toE
                    exact hst
                · go_wp2_with fail
                  go_ret
                  exact ⟨rfl, hBw⟩
              · go_wp2_with (at_builtin; refine OwnRow.append (w0 := w) (R := LainK w) w.heap.size rfl (.tmp 144) (.tmp 148) 28 27 (.agg #[.int .i64 0, .slice none 0 0, .bool false]) 3 40 rfl Tryd.underlying28 info27 rfl (by decide) (by decide) _ l ⟨d, [], true⟩ [.int .i64 d, .slice none 0 0, .bool true] rfl (by simp [Act.eval]) ⟨none, 0, rfl, bytes_none w⟩ rfl (by simp [Value.oneCell']) hLx hBw hBw.size (by omega) ?_; intro v1 w3 hO1 hB1' hg1 hat1; obtain ⟨hM3, kb3, kd3, hW3⟩ := after_lain hLx hg1 hMx kb kd; obtain ⟨r0, r1, r2, r3⟩ := cells4 kd3; have f0 := free_of kb3 0; have s0 := (cell_of kb3 0).trans rfl)
                go_meet
                refine ⟨⟨17, ⟨#[]⟩, ⟨#[]⟩, 0, 0, 0, A2, zs.length, c2, d, 0, d⟩, zs, ⟨0, 0, 0, []⟩, a, (l ++ [⟨d, [], true⟩]), by go_num, by omega, Lib.hid ?_, hBY.out, Go.Rd.heap_setCell_same (o := 0) kb3 _, by simp, Lib.hid (fit_snoc hlf.out ⟨by show d ≤ _; omega, by simp⟩), Lib.hid (lain_bytes _ hff.out (by simp)), OwnRow.set_ hO1 kb3 (by decide) _ _, (hM3.set kb3 _ _).more _, wrote_new (Wrote.of_below hBx |>.trans hW3) (by show _ ≤ bx; omega) _⟩
                rw [fileOf_cut]; exact okE_trunc ⟨(a : Int), false, false, fileOf l⟩ _ zs d rfl rfl rfl rfl (by omega)
              · obtain ⟨AS, cS, e5, _⟩ := OwnRow.slice_ hS
                subst e5
                have hak : As.length = L.length := by rw [hAk.out, hLk.out]
                have hW6 : Wrote (fun k => k = bx) wc (wc.setCell ⟨bx, 0, none⟩ (.int .i64 12)) := set_bx (Wrote.refl _ _)
                have hL6 := OwnRow.wroteT hLx hW6 (by rintro k rfl hk; exact absurd (typed_one kb hk) (by decide))
                have hM6 := hMx.wrote hW6 (by rintro k rfl; exact ⟨_, _, _, kb, by decide⟩)
                have hB6 := hBx.trans (hW6.below hBx.size (fun k hk e => by omega))
                have kb6 := Go.Rd.heap_setCell_same (o := 0) kb (.int .i64 12)
                have kd6 := (hW6.block wr.heap.size (lt_of_heap kd) hne2).trans kd
                have hds := due_start (wc.setCell ⟨bx, 0, none⟩ (.int .i64 12)) wc.heap.size (by simp [World.setCell]) l a d
                have hBw6 := hB.trans (hB6.mono hB.size)
                obtain ⟨wo, hwo⟩ : ∃ wo, wo = wr := ⟨_, rfl⟩
                subst hwo
                go_wp2_with fail
                go_loopw [13, 14] (fun v13 v14 wx => DueRel (wc.setCell ⟨bx, 0, none⟩ (.int .i64 12)) (wc.setCell ⟨bx, 0, none⟩ (.int .i64 12)).heap.size l a d v13 v14 wx) (fun _ v14 _ => a + d - (intOf v14).toNat)
                case atStart => exact hds
                case round =>
                  obtain ⟨p, hap, hpm, rfl, hown, hv13, hBW⟩ := hrel
                  have kd7 := (hBW.block wo.heap.size (lt_of_heap kd6)).trans kd6
                  obtain ⟨r0, r1, r2, r3⟩ := cells4 kd7
                  have hL7 := OwnRow.below hL6 hBW
                  have hBw7 := hBw6.trans (hBW.mono hBw6.size)
                  obtain ⟨Al7, cl7, e7, _, hLr7⟩ := hL7.reads
                  obtain ⟨rfl, -, rfl⟩ : Al7 = Al ∧ True ∧ cl7 = cl := by simp at e7; exact ⟨e7.1.symm, trivial, e7.2.symm⟩
                  by_cases hlt : p < a + d
                  · by_cases hln : p < lenOfL l
                    · go_wp2_with (first
                        | (go_at_call 11; refine (byteAt_any _ _ l p w _ hLr7 hBw7 hlf.out (by omega) (by omega)).mono ?_; rintro e w7 ⟨rfl, hB7⟩)
                        | (at_builtin; refine print_append_cells (w0 := wc.setCell ⟨bx, 0, none⟩ (.int .i64 12)) (wc.setCell ⟨bx, 0, none⟩ (.int .i64 12)).heap.size rfl (.tmp 169) (.tmp 173) 22 5 (.int .u8 0) 1 1 rfl Tryd.underlying22 info5 rfl (by decide) (by decide) _ _ _ [.int .u8 (byteAtP l p)] rfl (by simp [Act.eval]) rfl (by simp [Value.oneCell']) (own_move hown (fun k hk => hB7.block k (own_lt hown k hk))) (hBW.trans (hB7.mono hBW.size)) (Nat.le_trans hBW.size hB7.size) (by omega) ?_; intro v1 w8 hown8 hB8 hg8 hat8))
                      exact ⟨due_more hap (by omega) hv13 (hat8.imp id (fun ⟨b, e1, e2⟩ => ⟨b, e1, Nat.le_trans hB7.size e2⟩)) hown8 hB8, by simp [intOf]; omega⟩
                    · obtain hpe : p - a = min d (lenOfL l - a) := by omega
                      rw [hpe] at hown
                      obtain ⟨bv, cv, rfl, hbv, htv, hbl, hmn⟩ := due_done hff.out hv13 hown
                      obtain ⟨m, D, g1, g2, g3, g4⟩ := reads_below hM6 hBW
                      have hmx : m < maxLen := by have := hLk.out; unfold maxLen; omega
                      have hkey : keyOf Tryd.prog 3 (.int .i64 (L.length : Int)) = some (.int .i64 (As.length : Int)) := by rw [hak]; exact key_int (by have := hLk.out; omega)
                      go_wp2_with (at_mapUpdate; refine wpList_mapUpdate_own _ rfl _ _ _ 29 rfl 3 22 law3 Tryd.underlying29 sliceR (w1.heap.size + 1 + 1) m D rfl g1 hmx _ _ (.int .i64 (As.length : Int)) rfl rfl hkey (sliceD bv _ cv) [] (sliceR_mk bv _ cv) ?_; intro w8 hown8 hg8)
                      go_meet
                      have hmb8 : ∃ es clock, wr.heap[w1.heap.size + 1 + 1]? = some (.map es clock) := by
                        obtain ⟨es, clock, hh, _⟩ := g1
                        exact ⟨es, clock, hh⟩
                      have hw8 := wrote_grown hg8
                      have kb8 := (hBW.block bx (lt_of_heap kb6)).trans kb6
                      refine ⟨⟨12, ⟨#[]⟩, ⟨#[]⟩, 0, 0, 0, A2, zs.length, c2, d, 0, d⟩, zs, ⟨readE (fileOf l) a d, 0, 0, readBs (fileOf l) a d⟩, a + (readBs (fileOf l) a d).length, l, by rw [← hmn]; go_num, by omega, Lib.hid ?_, hBY.out, ?_, by omega, hlf, hff, ?_, ?_, ?_⟩
                      · rw [Int.natCast_add]
                        exact okE_read ⟨(a : Int), false, false, fileOf l⟩ _ zs a d rfl rfl rfl rfl (by omega) (by show (fileOf l).length ≤ _; rw [fileOf_length]; omega) (by omega) hff.out
                      · exact (hw8.block bx (lt_of_heap kb8) (fun e => by injection e with e; subst e; obtain ⟨es, clock, hh⟩ := hmb8; rw [kb8] at hh; cases hh)).trans kb8
                      · exact OwnRow.wroteT (OwnRow.below hL6 hBW) hw8 (by rintro q e ⟨c, fr, hh⟩; injection e with e; subst e; obtain ⟨es, clock, hh2⟩ := hmb8; rw [hh2] at hh; cases hh)
                      · exact ReadsOk.put g4 g3 g2 hown8 hg8 hbv htv hmb8
                      · exact (Wrote.of_below (hB6.trans (hBW.mono hB6.size))).trans (hw8.mono (fun q _ e => .inr (by injection e with e; exact e.symm)))
                  · obtain hpe : p - a = min d (lenOfL l - a) := by omega
                    rw [hpe] at hown
                    obtain ⟨bv, cv, rfl, hbv, htv, hbl, hmn⟩ := due_done hff.out hv13 hown
                    obtain ⟨m, D, g1, g2, g3, g4⟩ := reads_below hM6 hBW
                    have hmx : m < maxLen := by have := hLk.out; unfold maxLen; omega
                    have hkey : keyOf Tryd.prog 3 (.int .i64 (L.length : Int)) = some (.int .i64 (As.length : Int)) := by rw [hak]; exact key_int (by have := hLk.out; omega)
                    go_wp2_with (at_mapUpdate; refine wpList_mapUpdate_own _ rfl _ _ _ 29 rfl 3 22 law3 Tryd.underlying29 sliceR (w1.heap.size + 1 + 1) m D rfl g1 hmx _ _ (.int .i64 (As.length : Int)) rfl rfl hkey (sliceD bv _ cv) [] (sliceR_mk bv _ cv) ?_; intro w8 hown8 hg8)
                    go_meet
                    have hmb8 : ∃ es clock, wr.heap[w1.heap.size + 1 + 1]? = some (.map es clock) := by
                      obtain ⟨es, clock, hh, _⟩ := g1
                      exact ⟨es, clock, hh⟩
                    have hw8 := wrote_grown hg8
                    have kb8 := (hBW.block bx (lt_of_heap kb6)).trans kb6
                    refine ⟨⟨12, ⟨#[]⟩, ⟨#[]⟩, 0, 0, 0, A2, zs.length, c2, d, 0, d⟩, zs, ⟨readE (fileOf l) a d, 0, 0, readBs (fileOf l) a d⟩, a + (readBs (fileOf l) a d).length, l, by rw [← hmn]; go_num, by omega, Lib.hid ?_, hBY.out, ?_, by omega, hlf, hff, ?_, ?_, ?_⟩
                    · rw [Int.natCast_add]
                      exact okE_read ⟨(a : Int), false, false, fileOf l⟩ _ zs a d rfl rfl rfl rfl (by omega) (by show (fileOf l).length ≤ _; rw [fileOf_length]; omega) (by omega) hff.out
                    · exact (hw8.block bx (lt_of_heap kb8) (fun e => by injection e with e; subst e; obtain ⟨es, clock, hh⟩ := hmb8; rw [kb8] at hh; cases hh)).trans kb8
                    · exact OwnRow.wroteT (OwnRow.below hL6 hBW) hw8 (by rintro q e ⟨c, fr, hh⟩; injection e with e; subst e; obtain ⟨es, clock, hh2⟩ := hmb8; rw [hh2] at hh; cases hh)
                    · exact ReadsOk.put g4 g3 g2 hown8 hg8 hbv htv hmb8
                    · exact (Wrote.of_below (hB6.trans (hBW.mono hB6.size))).trans (hw8.mono (fun q _ e => .inr (by injection e with e; exact e.symm)))
            case rest =>
              obtain ⟨s, zs2, ans, a2, l2, rfl, ha2, hst, hzs, kb2, hl2, hlf2, hff2, hL2, hM2, hW2⟩ := hcut
              have hS2 := OwnRow.wroteT hS hW2 (hpS_not hL hM (by decide))
              have hB2 := hB.trans (hW2.below hB.size (hpS_base hL hmb))
              have hlk := hLk.out
              obtain ⟨q0, q1, q2, q3, q4, q5, q6, q7, q8, q9⟩ := cells10 (show _ = some (Obj.cells #[.int .i64 s.op, .string s.name, .string s.other, .int .i64 s.flag, .int .i64 s.perm, .int .i64 s.h, .slice s.da s.dl s.dc, .int .i64 s.off, .int .i64 s.wh, .int .i64 s.n] 33 (0, 0)) from kb2)
              clear x0 x1 x2 x3 m0 m1 m2 m3 m4 m5 m6 m7 m8 m9 n0 n1 n2' n3 n4 n5 n6 n7 n8 n9 hL hS hM hLx hMx hLr h7
              go_wp2_with (at_builtin; refine OwnRow.append (w0 := w) (R := StepK w) w.heap.size rfl (.tmp 183) (.tmp 185) 25 33 (.agg #[.int .i64 0, .string ⟨#[]⟩, .string ⟨#[]⟩, .int .i64 0, .int .i64 0, .int .i64 0, .slice none 0 0, .int .i64 0, .int .i64 0, .int .i64 0]) 10 112 rfl Tryd.underlying25 info33 rfl (by decide) (by decide) _ L (s, zs2) [.int .i64 s.op, .string s.name, .string s.other, .int .i64 s.flag, .int .i64 s.perm, .int .i64 s.h, .slice s.da s.dl s.dc, .int .i64 s.off, .int .i64 s.wh, .int .i64 s.n] rfl (by simp [Act.eval]) ⟨rfl, hzs⟩ rfl (by simp [Value.oneCell']) hS2 hB2 hB2.size (by omega) ?_; intro v1 w5 hO5 hB5 hg5 hat5)
              have hL5 := OwnRow.wroteT hL2 (wrote_grown hg5) (row_no hS2 (by decide))
              have hM5 := hM2.wrote (wrote_grown hg5) (row_nb hS2 (by decide))
              have hRS := RunsE.snoc hRun.out hst.out
              have hak := hAk.out
              go_roundw
              case rel =>
                exact ⟨k + 1, a2, L ++ [(s, zs2)], As ++ [ans], l2, by go_num, by omega, rfl, ha2, Lib.hid hRS, Lib.hid (by simp; omega), Lib.hid (by simp; omega), by omega, hlf2, hff2, hO5, hL5, hM5, hmb, hB5⟩
              case measure => simp [intOf]; omega
        · have hBa : ∀ o, Below w.heap.size w (wr.alloc o) := fun o => hB.alloc hB.size o
          by_cases p1 : at_ < 0
          · go_wp2_with fail
            go_ret
            exact ⟨rfl, hBa _⟩
          · by_cases p2 : 1000 < at_
            · go_wp2_with fail
              go_ret
              exact ⟨rfl, hBa _⟩
            · by_cases p3 : 200 < n2
              · have p3' : (200 : Int) < (n2 : Int) := by omega
                go_wp2_with fail
                go_ret
                exact ⟨rfl, hBa _⟩
              · have p4 : (1000 : Int) < (a : Int) := by omega
                have p3' : ¬ (200 : Int) < (n2 : Int) := by omega
                go_wp2_with fail
                go_ret
                exact ⟨rfl, hBa _⟩
      · obtain rfl : k = en := by omega
        obtain ⟨AS, cS, e5, _, hSr⟩ := hS.reads
        subst e5
        obtain ⟨Al, cl, e6, _, hLr⟩ := hL.reads
        subst e6
        have hlk := hLk.out
        have hlb := lenOf_le l hlf.out
        have hE : Calls Tryd.prog 12 #[.slice dA dm dc, .slice AS L.length cS] wr fun e w' => ∃ v lA lc, e = .returned (.tuple #[v, .slice lA (lenOfL l) lc, .bool true]) ∧ OwnRow (AnsK w' (fun _ => False)) 42 6 w' wr.heap.size v As ∧ BytesIn w' lA (lenOfL l) lc (fileOf l) ∧ Below wr.heap.size wr w' := by
          have h := one_anyE dA dm dc data AS cS L As ⟨(a : Int), false, false, fileOf l⟩ wr (HD.out.below hB) (by omega) (hSr.imp_ (Below.refl _ _) (fun p c hp => ⟨hp.1, hp.2.below hB⟩)) (by omega) hRun (by show (fileOf l).length ≤ _; rw [fileOf_length]; omega) (Lib.hid (by obtain ⟨ad, hs⟩ := HSE.out; exact ⟨ad, (hs.below hB).mono hB.size⟩))
          rw [show (⟨(a : Int), false, false, fileOf l⟩ : St).bs.length = lenOfL l from fileOf_length l] at h
          exact h
        rw [hlk] at hE
        have HE := Lib.hid hE
        have hLN := length_any Al cl l w
        have HLEN := Lib.hid hLN
        have hll2 : l.length ≤ 1000 := by omega
        clear hE hSr hLN
        go_wp2_with fail
        refine HE.out.mono ?_
        rintro e w2 ⟨v, lA, lc, rfl, hO2, hb2, hB2⟩
        have hLr2 := hLr.imp_ hB2 (fun _ _ h => h)
        go_wp2_with fail
        refine (HLEN.out w2 hLr2 hlf.out hll2).mono ?_
        rintro e w3 ⟨rfl, hB3⟩
        have hB23 := hB2.trans (hB3.mono hB2.size)
        obtain ⟨m, D, g1, g2, g3, g4⟩ := reads_below hM hB23
        have G4 := Lib.hid g4
        clear g4 hM hS hL
        go_wp2_with (at_range; refine wpList_range_own _ rfl _ 29 rfl 3 22 law3 Tryd.underlying29 sliceR (w1.heap.size + 1 + 1) m D rfl g1 ?_; intro w4 hrg4 hg4 hs4)
        go_frame
        go_loopw [] (fun wx => ∃ left cnt, wx.ranges Tryd.prog 3 sliceR (w1.heap.size + 1 + 1) w3.heap.size m D left cnt ∧ Below w3.heap.size w3 wx) (fun wx => wx.rangeLeft (w1.heap.size + 1 + 1) w3.heap.size)
        case atStart => exact ⟨_, _, hrg4, (Below.refl _ _).grown hg4 (Nat.le_refl _) (fun k hk => by cases hk)⟩
        case round =>
          obtain ⟨left, cnt, hrg, hBr⟩ := hrel
          go_wp2_with (at_next; refine wpList_next_ranges _ rfl _ rfl 3 law3 sliceR (Value.int .i64) (fun c : Nat × Nat × Nat => .slice (some ⟨c.1, 0, none⟩) c.2.1 c.2.2) (fun key kl hkey => by obtain ⟨x, rfl, _⟩ := Maps.keyOf_int_inv Tryd.underlying3 hkey; exact ⟨x, rfl⟩) (fun v y hv => sliceR_inv hv) (w1.heap.size + 1 + 1) w3.heap.size m D _ _ rfl hrg ?_ ?_)
          · intro hc0 hl0
            go_wp2_with fail
            have hBz := hB23.trans (hBr.mono hB23.size)
            have hb9 := hb2.below (hB3.trans (hBr.mono hB3.size))
            obtain ⟨wq, hwq⟩ : ∃ wq, wq = wr := ⟨_, rfl⟩
            subst hwq
            go_loopw [20, 21, 222] (fun v20 v21 i wx => ∃ q : Nat, q ≤ lenOfL l ∧ i = .int .i64 (q : Int) ∧ Below wq.heap.size wq wx) (fun _ _ i _ => lenOfL l - (intOf i).toNat)
            case atStart => exact ⟨0, Nat.zero_le _, rfl, Below.refl _ _⟩
            case round =>
              obtain ⟨q, hq, rfl, hBq⟩ := hrel
              have hBw9 := (hB.trans (hBz.mono hB.size)).trans (hBq.mono (Nat.le_trans hB.size hBz.size))
              by_cases hlt : q < lenOfL l
              · obtain ⟨b9, off9, rfl, hb9l, hcell⟩ := (hb9.below hBq).form (by omega)
                have z0 := hcell q (byteAtP l q) (by simp [fileOf, List.getElem?_range hlt])
                clear hcell
                have hLr9 := hLr.imp_ (hBz.trans (hBq.mono hBz.size)) (fun _ _ h => h)
                go_wp2_with (go_at_call 11; refine (byteAt_any _ _ l q w _ hLr9 hBw9 hlf.out hll2 (by omega)).mono ?_; rintro e w9 ⟨rfl, hB9⟩)
                exact ⟨⟨q + 1, by omega, by go_num, hBq.trans (hB9.mono hBq.size)⟩, by simp [intOf]; omega⟩
              · go_wp2_with fail
                go_ret
                exact ⟨rfl, hBw9⟩
          · intro x b5 n5 c5 kl y1 y2 w5 cnt5 hkey hlk5 hv hat hrg5 hlt5 hg5 hs5 hen
            obtain ⟨j, bb, nn, cc, a', rfl, hja, ey, hbb, _⟩ := G4.out _ _ hat
            have hv2 : sliceD b5 n5 c5 = y1 := by
              have h := hv
              rw [sliceR_mk] at h
              injection h with h
              injection h
            obtain ⟨rfl, rfl, rfl⟩ := sliceD_inj (hv2.trans ey)
            obtain ⟨x', ex1, ex2, _⟩ := Maps.keyOf_int_inv Tryd.underlying3 hkey
            obtain rfl : x = (j : Int) := by
              injection ex1 with _ ex1
              injection ex2 with _ ex2
              rw [ex1, ex2]
            have hjl : j < As.length := (List.getElem?_eq_some_iff.1 hja).1
            obtain ⟨gA, cA, rfl, hcA, hgA, hcells⟩ := ans_data hO2 (by omega)
            obtain ⟨AA, kA, u3, hbA⟩ := hcells j a' hja
            have hBr5 : Below w3.heap.size w3 w5 := hBr.grown hg5 hBr.size (fun q hq => by cases hq; exact Nat.le_refl _)
            have hB25 := hB3.trans (hBr5.mono hB3.size)
            have u3' := (hB25.cell (p := ⟨gA, j * 6 + 3, none⟩) hgA).trans u3
            have zA := C_str (c := kA) (C_of_bytes' (hbA.below hB25))
            have zB := C_str (c := c5) (C_of_bytes' (hbb.below hBr5))
            have hdr : w5.drewN 1 = w5.drew := rfl
            have zA1 := zA 1
            have zB1 := zB 1
            rw [hdr] at zA1 zB1
            clear zA zB hdr
            have hle := hrg5.left_eq
            have hle0 := hrg.left_eq
            clear hcells u3 hbA hbb ex1 ex2
            go_upto_region 46 with fail
            go_region
            all_goals
              go_wp2_with fail
              refine ⟨⟨_, cnt5, hrg5.kept (row := none) ⟨rfl, rfl, rfl, Nat.le_refl _, fun _ _ _ => rfl⟩ (by simp) (by simp), hBr5.drew⟩, ?_⟩
              show w5.rangeLeft _ _ < _
              rw [hle, hle0]
              exact hlt5
end Go.Proofs.YtnkhfdnahnphdaaDoor
