/- Words over rows, on top of the print's: an append onto nothing, rows that are handed on while another row is written, what is read at an index. -/
import Derived.Test.YtfanlhkpblemgaaDoorRd
import Derived.Test.YtfanlhkpblemgaaDoorWMore
import Derived.Test.YtfanlhkpblemgaaDoorWShare
import Derived.Test.YtfanlhkpblemgaaDoorWRepsOne
import Derived.Test.YtfanlhkpblemgaaDoorWSized
import Derived.Deep.LoopGhost
import Derived.Deep.QuietTactic
import Derived.BigQuiet
namespace Go.Proofs.YtfanlhkpblemgaaDoor
open Go.RowKit Go.Rd Go.Proofs.YtfanlhkpblemgaaDoorW.PrintWords Go.Proofs.YtfanlhkpblemgaaDoorW.PrintLast Go.Proofs.YtfanlhkpblemgaaDoorW.PrintMore

section
variable {α : Type} {d : Kd α} {e : Nat} {w w1 : World} {base : Nat} {ok : Nat → Prop} {v : Value} {xs : List α}
/-- A row stays while a row of another type of elements is written. -/
theorem R_beside {b' s' n' : Nat} {t' : TypeId} {u : Value} {ys : List Value} (h : d.R e w base ok v xs) (ho : w.ownsRow b' t' s' u n' ys) (hne : ∀ q, q ∈ e :: d.E → q ≠ t') (hg : w.grownBy w1 u.ownBlock) : d.R e w1 base ok v xs :=
  Kd.R_mono (Kd.R_grown (Kd.R_bound h) hg (fun k hk hr => by
    obtain ⟨_, _, _, q, hq, cells, hc⟩ := hk
    obtain ⟨cells', hc'⟩ := own_typed ho k hr.symm
    rw [hc] at hc'
    injection hc' with hc'
    injection hc' with _ hc'
    exact hne q hq hc')) (fun _ hk => hk.1)
theorem R_any (h : d.R e w base ok v xs) : d.R e w base (fun _ => True) v xs := Kd.R_mono h (fun _ _ => trivial)
end

/-- Of two rows of one type the one stays while the other is appended to. -/
theorem R_other {β : Type} {d : Kd β} {e : Nat} {W w1 : World} {base : Nat} {v4 v5 v1 : Value} {ys : List β} (h5 : d.R e W base (fun k => some k ≠ v4.ownBlock) v5 ys) (hg : W.grownBy w1 v4.ownBlock) (hat : v1.ownBlock = v4.ownBlock ∨ ∃ b, v1.ownBlock = some b ∧ W.heap.size ≤ b) :
    d.R e w1 base (fun k => some k ≠ v1.ownBlock) v5 ys :=
  Kd.R_grown (Kd.R_mono (Kd.R_bound h5) (ok' := fun k => some k ≠ v4.ownBlock ∧ some k ≠ v1.ownBlock) (fun k hk => ⟨hk.1, by
    rcases hat with h | ⟨b, h, hb⟩
    · rw [h]; exact hk.1
    · rw [h]; intro e; injection e with e; have := hk.2.2.1; omega⟩)) hg (fun k hk => hk.1) |> fun h => Kd.R_mono h (fun _ hk => hk.2)

section
variable {P : Program} {ops : Array Oper} {rest : List Oper} {o : Oper} {a : Act} {Q : Exit → Act → World → Prop} {W : World}
/-- append(nil, x...) of bytes: a row of its own. -/
theorem append_none (hgd : o.guard = none) (s x : Operand) (t e : TypeId) (ho : o.op = .call { callee := .builtin .append, args := #[s, x], argTypes := #[t, t] })
    (ht : P.underlying t = some (.slice e)) (hinfo : (P.info? e).map (fun i => (i.zero, i.size, i.bytes)) = some (some (.int .u8 0), 1, 1)) (A : Option Addr) (m c : Nat) (l : List Int)
    (hs : a.eval s = .slice none 0 0) (hx : a.eval x = .slice A m c) (HC : Kd.C (Kd.int .u8) W A m l) (hm : m ≤ 140737488355328)
    (h : ∀ v1 w1, Kd.R (Kd.int .u8) e w1 W.heap.size (fun k => W.heap.size ≤ k) v1 l → Below W.heap.size W w1 → wpList P ops Q rest (a.put o.dst v1) w1) : wpList P ops Q (o :: rest) a W := by
  refine Kd.R_append_rows (Kd.int .u8) (w0 := W) W.heap.size hgd s x t e (.int .u8 0) 1 ho ht hinfo rfl (by decide) (by decide) (.slice none 0 0) [] l A m c (fun k => W.heap.size ≤ k) (fun _ => False) hs hx (Kd.R_nil _ _ _ _ _) HC (fun x cs hx => hx) (fun _ h => h.elim) (fun _ hk => hk) (Below.refl _ _) (Nat.le_refl _) (by simpa using hm) ?_
  intro v1 w1 ho hb _ _
  exact h v1 w1 (by simpa using ho) hb
end

/-- What is read at an index of a row of plain values. -/
theorem C_cell {α : Type} {enc : α → Value} {h1 : ∀ x, (enc x).oneCell' = true} {w : World} {A : Option Addr} {n : Nat} {xs : List α} (h : (Kd.scalar enc h1).C w A n xs) (k : Nat) (hk : k < xs.length) : ∃ ad, A = some ad ∧ w.cell? (ad.add k) = some (enc xs[k]) := by
  obtain ⟨ad, e, hc⟩ := h.2.2 (by have := h.1; omega)
  obtain ⟨c, hs, hr, hcell⟩ := hc k _ (List.getElem?_eq_getElem hk)
  refine ⟨ad, e, ?_⟩
  have hr' : c = [enc xs[k]] := hr
  subst hr'
  have := hcell 0 _ rfl
  simpa [Kd.scalar] using this

/-- A block that was just made stays while an elder row is written. -/
theorem kept_new {w w1 : World} {o : Obj} {b s n : Nat} {t : TypeId} {u : Value} {ys : List Value} (ho : w.ownsRow b t s u n ys) (hg : (w.alloc o).grownBy w1 u.ownBlock) : w1.heap[w.heap.size]? = some o :=
  (hg.block w.heap.size (by simp) (fun e => by have := own_lt ho _ e.symm; omega)).trans (heap_alloc_new w o)

/-- Blocks whose type is not in T stay as they are. -/
def KeepT (T : TypeId → Prop) (w w' : World) : Prop := ∀ (k : Nat) (c : Array Value) (t : TypeId) (fr : Nat × Nat), w.heap[k]? = some (.cells c t fr) → ¬ T t → w'.heap[k]? = some (.cells c t fr)
section
variable {T : TypeId → Prop} {a w w1 : World}
theorem KeepT.refl (T : TypeId → Prop) (w : World) : KeepT T w w := fun _ _ _ _ h _ => h
theorem KeepT.trans (h : KeepT T a w) (h1 : KeepT T w w1) : KeepT T a w1 := fun k c t fr hk ht => h1 k c t fr (h k c t fr hk ht) ht
theorem KeepT.of_below (h : Below w.heap.size w w1) : KeepT T w w1 := fun k _ _ _ hk _ => (h.block k (lt_of_heap hk)).trans hk
theorem KeepT.below (h : KeepT T a w) (h1 : Below w.heap.size w w1) : KeepT T a w1 := h.trans (KeepT.of_below h1)
theorem KeepT.grown (h : KeepT T a w) {row : Option Nat} (hg : w.grownBy w1 row) (hr : ∀ k, row = some k → ∃ c t fr, w.heap[k]? = some (.cells c t fr) ∧ T t) : KeepT T a w1 :=
  h.trans fun k c t fr hk ht => (hg.block k (lt_of_heap hk) (fun e => by
    obtain ⟨c', t', fr', hk', ht'⟩ := hr k e.symm
    rw [hk] at hk'
    injection hk' with hk'
    injection hk' with _ e2
    exact ht (e2 ▸ ht'))).trans hk
theorem KeepT.grown_own (h : KeepT T a w) {b s n : Nat} {t : TypeId} {u : Value} {ys : List Value} (ho : w.ownsRow b t s u n ys) (ht : T t) (hg : w.grownBy w1 u.ownBlock) : KeepT T a w1 :=
  h.grown hg fun k hk => by
    obtain ⟨c, hc⟩ := own_typed ho k hk
    exact ⟨c, t, _, hc, ht⟩
theorem KeepT.set (h : KeepT T a w) {p : Addr} {c : Array Value} {t : TypeId} {fr : Nat × Nat} (hp : w.heap[p.block]? = some (.cells c t fr)) (ht : T t) (u : Value) : KeepT T a (w.setCell p u) :=
  h.trans fun k c' t' fr' hk ht' => (Below.heap_setCell _ _ _ _ (fun e => by
    subst e
    rw [hk] at hp
    injection hp with hp
    injection hp with _ e2
    exact ht' (e2 ▸ ht))).trans hk
theorem own_keepT {b s n : Nat} {t : TypeId} {u : Value} {ys : List Value} (ho : w.ownsRow b t s u n ys) (hk : KeepT T w w1) (ht : ¬ T t) : w1.ownsRow b t s u n ys :=
  own_move ho fun k hk' => by
    obtain ⟨c, hc⟩ := own_typed ho k hk'
    rw [hk k c t _ hc ht, hc]
theorem R_fresh {α : Type} {d : Kd α} {e base : Nat} {ok : Nat → Prop} {v : Value} {xs : List α} (h : d.R e w base ok v xs) (j : Nat) (hj : w.heap.size ≤ j) : some j ≠ v.ownBlock := fun e => by
  have := own_lt (Kd.R_own h).choose_spec _ e.symm
  omega
theorem R_keepT {α : Type} {d : Kd α} {e base : Nat} {ok : Nat → Prop} {v : Value} {xs : List α} (h : d.R e w base ok v xs) (hk : KeepT T w w1) (hne : ∀ q, q ∈ e :: d.E → ¬ T q) : d.R e w1 base ok v xs :=
  Kd.R_mono (Kd.R_step (Kd.R_bound h) fun k hk' _ => by
    obtain ⟨_, _, _, q, hq, c, hc⟩ := hk'
    rw [hk k c q _ hc (hne q hq), hc]) (fun _ hk => hk.1)
end

theorem take_snoc_map {α β : Type} (f : α → β) (l : List α) (k : Nat) (hk : k < l.length) : (l.take (k + 1)).map f = (l.take k).map f ++ [f l[k]] := by
  rw [List.take_succ_eq_append_getElem hk, List.map_append]; rfl
theorem getD_at {α : Type} (l : List α) (d : α) (k : Nat) (hk : k < l.length) : l.getD ((k : Int)).toNat d = l[k] := by
  rw [Int.toNat_natCast, List.getD_eq_getElem?_getD, List.getElem?_eq_getElem hk]; rfl
end Go.Proofs.YtfanlhkpblemgaaDoor
