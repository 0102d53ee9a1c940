/- FnVerityBack: the root of a tree, and the tree of hashes. -/
import Derived.Test.YtfanlhkpblemgaaDoorVcWalk
import Derived.Deep.QuietTactic
import Derived.BigQuiet
import Derived.Laws.MakeOwn
namespace Go.Proofs.YtfanlhkpblemgaaDoor
open Go.RowKit Go.Rd
set_option linter.unusedVariables false
set_option linter.unusedSimpArgs false
open Go.Proofs.YtfanlhkpblemgaaDoorW.PrintWords Go.Proofs.YtfanlhkpblemgaaDoorW.PrintLast Go.Proofs.YtfanlhkpblemgaaDoorW.PrintMore

/-- So many zeros, made. -/
theorem zeros_run (n : Nat) (hn : n ≤ 100000) : ∃ Z : Array Value, Hid (Z = (List.replicate n (Value.int .u8 0)).toArray) ∧ ∀ W : World, (Instr.makeSlice 22 (.int .i64 (n : Int)) (.int .i64 (n : Int))).run Tryd.prog W = .ok (.slice (some ⟨W.heap.size, 0, none⟩) n n) (W.alloc (.cells Z 5)) := by
  obtain ⟨i0, hi, hzz⟩ := Option.map_eq_some_iff.1 infoB
  simp only [Prod.mk.injEq] at hzz
  obtain ⟨Z, hZ, _, hr⟩ := make_run (P := Tryd.prog) (t := 22) (e := 5) Tryd.underlying22 hi hzz.1 n (by rw [hzz.2.2]; omega) (by unfold maxLen; omega)
  refine ⟨Z, Lib.hid ?_, hr⟩
  rw [hZ.out, hzz.2.1, Nat.mul_one, ← toList_madeCells_one]
  rfl
/-- Zeros that were just made. -/
theorem bytes_zeros (W : World) (n : Nat) (hn : n ≤ 100000) {Z : Array Value} (hZ : Hid (Z = (List.replicate n (Value.int .u8 0)).toArray)) : BytesIn (W.alloc (.cells Z 5)) (some ⟨W.heap.size, 0, none⟩) n n (List.replicate n 0) := by
  obtain rfl := hZ.out
  refine ⟨by simp, fun e => (by cases e), Nat.le_refl _, by unfold maxLen; omega, fun x hx j u hu => ?_, fit_zeros n⟩
  cases hx
  exact cells_new W _ 5 W.heap.size rfl _ rfl j u (by simpa using hu)

set_option maxRecDepth 100000 in
set_option maxHeartbeats 2000000 in
/-- The root: the hash of the first block behind 32 zeros. -/
theorem root_any (A : Option Addr) (n c : Nat) (l : List Int) (b : Nat) (W : Nat → Int) (w : World) (hb : BytesIn w A n c l) (hW : WordsAt w b W) (hn : 4096 ≤ n) :
    Calls Tryd.prog 38 #[.slice A n c, HashV b] w (HashPost (digest W) z32 (l.take 4096) w) := by
  have hbl := lt_of_heap hW.blk
  obtain ⟨Z, hZ, hmk⟩ := zeros_run 32 (by decide)
  have hmk' : ∀ W : World, (Instr.makeSlice 22 (.int .i64 32) (.int .i64 32)).run Tryd.prog W = .ok (.slice (some ⟨W.heap.size, 0, none⟩) 32 32) (W.alloc (.cells Z 5)) := hmk
  obtain ⟨hs1, ht⟩ := BytesIn.taken hb 4096 (by decide) hn
  have hs : ∀ W : World, (Instr.slice 22 (.slice A n c) none (some (.int .i64 4096)) none).run Tryd.prog W = .ok (.slice A 4096 c) W := hs1
  have HT := Lib.hid ht
  have HW := Lib.hid hW
  clear hs1 ht hb hW hmk
  unfold HashV
  go_enter Tryd.func38, Tryd.ntmps38
  go_wp2_with fail
  have hBx : Below w.heap.size w (w.alloc (.cells Z 5)).drew := ((Below.refl _ _).alloc (Nat.le_refl _) _).drew
  go_region_law (go_simp; go_at_call 49; refine (hash2_any (some ⟨w.heap.size, 0, none⟩) 32 32 z32 A 4096 c (l.take 4096) b W (w.alloc (.cells Z 5)).drew ((bytes_zeros w 32 (by decide) hZ).below ((Below.refl _ _).drew)) (HT.out.below hBx) (HW.out.below hBx hbl) (by decide) (by decide)).mono ?_; rintro e w1 ⟨v1, rfl, hR1, hB1⟩)
  all_goals
    go_wp2_with fail
    go_ret
    exact ⟨_, rfl, hR1.lower hBx.size, hBx.trans (hB1.mono hBx.size)⟩

/-- A cell that holds a layer. -/
structure LayIs (w : World) (L : List Int) (u : Value) : Prop where
  ex : ∃ A c, u = .slice A L.length c ∧ BytesIn w A L.length c L ∧ ∀ y, A = some y → ∃ cs fr, w.heap[y.block]? = some (.cells cs 5 fr)
theorem LayIs.below {w w' : World} {L : List Int} {u : Value} (h : LayIs w L u) (hb : Below w.heap.size w w') : LayIs w' L u := by
  obtain ⟨A, c, e, h1, h2⟩ := h.ex
  refine ⟨A, c, e, h1.below hb, fun y hy => ?_⟩
  obtain ⟨cs, fr, hc⟩ := h2 y hy
  exact ⟨cs, fr, (hb.block _ (lt_of_heap hc)).trans hc⟩
theorem Row.lay {base : Nat} {w : World} {v : Value} {l : List Int} (h : Row base w v l) : LayIs w l v := by
  obtain ⟨A, c, e, hb⟩ := h.bytes
  subst e
  refine ⟨A, c, rfl, hb, fun y hy => ?_⟩
  subst hy
  obtain ⟨cs, hc⟩ := own_typed h.1 y.block rfl
  exact ⟨cs, _, hc⟩
/-- Layers stay while a row of slices is written. -/
theorem LayIs.grown {w w' : World} {L : List Int} {u : Value} (h : LayIs w L u) {base n : Nat} {v : Value} {vs : List Value} (ho : w.ownsRow base 22 1 v n vs) (hg : w.grownBy w' v.ownBlock) : LayIs w' L u := by
  obtain ⟨A, c, e, h1, h2⟩ := h.ex
  have hne : ∀ y, A = some y → some y.block ≠ v.ownBlock := fun y hy e => by
    obtain ⟨cs, fr, hc⟩ := h2 y hy
    obtain ⟨cs', hc'⟩ := own_typed ho _ e.symm
    rw [hc] at hc'
    injection hc' with hc'
    injection hc' with _ h5
    exact absurd h5 (by decide)
  refine ⟨A, c, e, ⟨h1.len, h1.nil, h1.le, h1.max, fun x hx j u hu => ?_, h1.fits⟩, fun y hy => ?_⟩
  · have hc := h1.cells x hx j u hu
    refine (World.cell?_of_block (hg.block _ (cell_lt hc) ?_)).trans hc
    rw [Go.Rd.add_block]
    exact hne x hx
  · obtain ⟨cs, fr, hc⟩ := h2 y hy
    exact ⟨cs, fr, (hg.block _ (lt_of_heap hc) (hne y hy)).trans hc⟩
/-- The layers so far. -/
structure LayersIs (base : Nat) (w : World) (v : Value) (Ls : List (List Int)) : Prop where
  ex : ∃ vs : List Value, w.ownsRow base 22 1 v Ls.length vs ∧ vs.length = Ls.length ∧ ∀ (i : Nat) (L : List Int) (u : Value), Ls[i]? = some L → vs[i]? = some u → LayIs w L u
theorem LayersIs.slice {base : Nat} {w : World} {v : Value} {Ls : List (List Int)} (h : LayersIs base w v Ls) : ∃ A c, v = .slice A Ls.length c := by
  obtain ⟨vs, h1, _⟩ := h.ex
  exact own_slice h1
theorem LayersIs.below {base : Nat} {w w' : World} {v : Value} {Ls : List (List Int)} (h : LayersIs base w v Ls) (hb : Below w.heap.size w w') : LayersIs base w' v Ls := by
  obtain ⟨vs, h1, h2, h3⟩ := h.ex
  exact ⟨vs, own_move h1 (fun k hk => hb.block k (own_lt h1 k hk)), h2, fun i L u hL hu => (h3 i L u hL hu).below hb⟩
/-- The layer at an index. -/
theorem LayersIs.at {base : Nat} {w : World} {A : Option Addr} {n c : Nat} {Ls : List (List Int)} (h : LayersIs base w (.slice A n c) Ls) (i : Nat) (hi : i < Ls.length) :
    ∃ g A2 c2, A = some ⟨g, 0, none⟩ ∧ n = Ls.length ∧ w.cell? ⟨g, i, none⟩ = some (.slice A2 Ls[i].length c2) ∧ BytesIn w A2 Ls[i].length c2 Ls[i] := by
  obtain ⟨vs, ⟨hl, hv⟩, h2, h3⟩ := h.ex
  rcases hv with ⟨e, hn⟩ | ⟨g, cap, cur, e, _, hg, hnc, hcm, hcs, ht⟩
  · omega
  · cases e
    have hiv : i < vs.length := by omega
    obtain ⟨A2, c2, e2, hb, _⟩ := (h3 i Ls[i] vs[i] (List.getElem?_eq_getElem hi) (List.getElem?_eq_getElem hiv)).ex
    refine ⟨g, A2, c2, rfl, rfl, ?_, hb⟩
    rw [cell_of hg i, ← e2]
    have : vs[i]? = some vs[i] := List.getElem?_eq_getElem hiv
    rw [← this, ← ht, List.getElem?_take_of_lt (by omega)]
    simp
theorem infoR : ∃ i, Tryd.prog.info? 22 = some i ∧ i.zero = some (.slice none 0 0) ∧ i.size = 1 ∧ i.bytes = 24 := by
  have h : (Tryd.prog.info? 22).map (fun i => (i.zero, i.size, i.bytes)) = some (some (.slice none 0 0), 1, 24) := by kernel_rfl
  obtain ⟨i0, hi, hzz⟩ := Option.map_eq_some_iff.1 h
  simp only [Prod.mk.injEq] at hzz
  exact ⟨i0, hi, hzz.1, hzz.2.1, hzz.2.2⟩
theorem und23 : Tryd.prog.underlying 23 = some (.slice 22) := by kernel_rfl
section
variable {ops : Array Oper} {rest : List Oper} {o : Oper} {a : Act} {Q : Exit → Act → World → Prop} {W : World}
/-- A layer is put behind the layers: the literal's cell is the world's newest. -/
theorem layer_app (base : Nat) (hgd : o.guard = none) (s x : Operand) (ho : o.op = .call { callee := .builtin .append, args := #[s, x], argTypes := #[23, 23] })
    (v : Value) (Ls : List (List Int)) (hs : a.eval s = v) (u : Value) (L : List Int) (hR : LayersIs base W v Ls) (hL : LayIs W L u) (hl : Ls.length ≤ 1000)
    (W2 : World) (hW2 : W2 = W.alloc (.cells #[u] 22)) (hx : a.eval x = .slice (some ⟨W.heap.size, 0, none⟩) 1 1) (hbase : base ≤ W.heap.size)
    (h : ∀ v1 w1, LayersIs base w1 v1 (Ls ++ [L]) → LayIs w1 L u → Below base W w1 → wpList Tryd.prog ops Q rest (a.put o.dst v1) w1) : wpList Tryd.prog ops Q (o :: rest) a W2 := by
  subst hW2
  obtain ⟨i0, hi, hz, hsz, hby⟩ := infoR
  obtain ⟨vs, h1, h2, h3⟩ := hR.ex
  have hone : u.oneCell' = true := by
    obtain ⟨A, c, e, _⟩ := hL.ex
    subst e
    rfl
  have hal : Below W.heap.size W (W.alloc (.cells #[u] 22)) := (Below.refl _ _).alloc (Nat.le_refl _) _
  have h1' := own_move h1 (fun k hk => hal.block k (own_lt h1 k hk))
  refine append_src hgd s x 23 ho base 22 i0 (.slice none 0 0) 1 24 und23 hi hz hsz hby rfl (by decide) v Ls.length vs hs h1' (some ⟨W.heap.size, 0, none⟩) 1 1 [u] hx rfl (fun e => by cases e)
    (fun ad e => by cases e; exact cells_new W #[u] 22 W.heap.size rfl [u] rfl) (fun y hy => by simp at hy; subst hy; exact hone) (by unfold maxLen; omega) (by omega) (by simp; omega) ?_
  intro v1 w1 ho1 hg
  have hLg := (hL.below hal).grown h1' hg
  refine h v1 w1 ⟨vs ++ [u], by simpa using ho1, by simp [h2], fun i L' u' hL' hu' => ?_⟩ hLg ?_
  · rcases Nat.lt_or_ge i Ls.length with g | g
    · rw [List.getElem?_append_left g] at hL'
      rw [List.getElem?_append_left (by omega)] at hu'
      exact ((h3 i L' u' hL' hu').below hal).grown h1' hg
    · rw [List.getElem?_append_right g] at hL'
      rw [List.getElem?_append_right (by omega)] at hu'
      have e0 : i - Ls.length = 0 := by
        have := (List.getElem?_eq_some_iff.1 hL').1
        simp at this
        omega
      rw [h2] at hu'
      rw [e0] at hL' hu'
      cases hL'
      cases hu'
      exact hLg
  · exact ((Below.refl base W).alloc hbase _).trans ⟨hg.os, hg.tape, hg.output, hg.size, fun k hk => hg.block k (by simp; omega) (fun e => by have := own_base h1' k e.symm; omega)⟩
end
theorem layers_nil (W : World) (base : Nat) (v : Value) (h : W.ownsRow base 22 1 v 0 []) : LayersIs base W v [] := ⟨[], h, rfl, fun i L u hL => by simp at hL⟩

/-- How far the levels are. -/
def Stage (H : List Int → List Int) (l : List Int) (Ls : List (List Int)) (cur : List Int) : Prop := (Ls = [] ∧ cur = l) ∨ (Ls = [level H l] ∧ cur = level H l ∧ 4096 * 128 < l.length)
/-- All levels. -/
def AllLev (H : List Int → List Int) (l : List Int) (Ls : List (List Int)) : Prop := (Ls = [level H l] ∧ l.length ≤ 4096 * 128) ∨ (Ls = [level H l, level H (level H l)] ∧ 4096 * 128 < l.length)
/-- A device of whole blocks. -/
structure Whole (l : List Int) : Prop where
  mod : l.length % 4096 = 0
  pos : 4096 ≤ l.length
  max : l.length ≤ 4096 * 300
section
variable {H : List Int → List Int} (hH : IsHash H)
include hH
theorem stage_whole {l cur : List Int} {Ls : List (List Int)} (hl : Whole l) (h : Stage H l Ls cur) : Whole cur ∧ Ls.length ≤ 1 := by
  rcases h with ⟨rfl, rfl⟩ | ⟨rfl, rfl, h⟩
  · exact ⟨hl, by simp⟩
  · obtain ⟨a, b, c⟩ := level_more hH hl.mod h hl.max
    exact ⟨⟨c, by omega, by omega⟩, by simp⟩
theorem stage_end {l cur : List Int} {Ls : List (List Int)} (hl : Whole l) (h : Stage H l Ls cur) (he : (level H cur).length = 4096) : AllLev H l (Ls ++ [level H cur]) := by
  rcases h with ⟨rfl, rfl⟩ | ⟨rfl, rfl, h⟩
  · refine .inl ⟨rfl, ?_⟩
    rcases Nat.lt_or_ge (4096 * 128) cur.length with g | g
    · have := level_more hH hl.mod g hl.max
      omega
    · exact g
  · exact .inr ⟨rfl, h⟩
theorem stage_next {l cur : List Int} {Ls : List (List Int)} (hl : Whole l) (h : Stage H l Ls cur) (he : (level H cur).length ≠ 4096) : Stage H l (Ls ++ [level H cur]) (level H cur) ∧ (level H cur).length < cur.length := by
  rcases h with ⟨rfl, rfl⟩ | ⟨rfl, rfl, h⟩
  · have g : 4096 * 128 < cur.length := by
      rcases Nat.lt_or_ge (4096 * 128) cur.length with g | g
      · exact g
      · exact absurd (level_one hH hl.pos g) he
    obtain ⟨a, b, c⟩ := level_more hH hl.mod g hl.max
    exact ⟨.inr ⟨rfl, rfl, g⟩, by omega⟩
  · obtain ⟨a, b, c⟩ := level_more hH hl.mod h hl.max
    exact absurd (level_one hH (by omega) (by omega)) he
/-- The levels from the last one on. -/
def joined (Ls : List (List Int)) : List Int := Ls.reverse.flatten
omit hH in
theorem joined_at (Ls : List (List Int)) (i : Nat) (hi : i < Ls.length) : joined (Ls.drop i) = joined (Ls.drop (i + 1)) ++ Ls[i] := by
  unfold joined
  rw [List.drop_eq_getElem_cons hi, List.reverse_cons, List.flatten_append]
  simp only [List.flatten_cons, List.flatten_nil, List.append_nil]
omit hH in
theorem all_joined {l : List Int} {Ls : List (List Int)} (h : AllLev H l Ls) : joined Ls = mtree H l := by
  unfold mtree joined
  rcases h with ⟨rfl, h⟩ | ⟨rfl, h⟩
  · rw [if_pos h]; simp
  · rw [if_neg (by omega)]; simp
theorem all_small {l : List Int} {Ls : List (List Int)} (hl : Whole l) (h : AllLev H l Ls) : Ls.length ≤ 2 ∧ ∀ i (hi : i < Ls.length), (joined (Ls.drop (i + 1))).length + Ls[i].length ≤ 100000 := by
  have e : ∀ i (hi : i < Ls.length), (joined (Ls.drop (i + 1))).length + Ls[i].length ≤ (joined Ls).length := fun i hi => by
    have h1 := joined_at Ls i hi
    have h2 : joined Ls = joined (Ls.drop i) ++ joined (Ls.take i) := by
      unfold joined
      rw [← List.flatten_append, ← List.reverse_append, List.take_append_drop]
    rw [h2, h1]
    simp only [List.length_append]
    omega
  have h3 := mtree_length hH hl.mod hl.pos hl.max
  rw [← all_joined h] at h3
  refine ⟨?_, fun i hi => by have := e i hi; omega⟩
  rcases h with ⟨rfl, _⟩ | ⟨rfl, _⟩ <;> simp
end
end Go.Proofs.YtfanlhkpblemgaaDoor
