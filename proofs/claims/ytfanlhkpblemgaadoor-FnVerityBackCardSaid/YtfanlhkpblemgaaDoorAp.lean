/- Appends of bytes, as runs: onto a row of one's own, and within its room; and how a region's step takes them. -/
import Derived.Test.YtfanlhkpblemgaaDoorKx
import Derived.Maps.AppendAt
import Derived.Deep.AppendLies
import Derived.Deep.RegionLaw
namespace Go.Proofs.YtfanlhkpblemgaaDoor
open Go.RowKit Go.Rd Go.Proofs.YtfanlhkpblemgaaDoorW.PrintWords Go.Proofs.YtfanlhkpblemgaaDoorW.PrintLast Go.Proofs.YtfanlhkpblemgaaDoorW.PrintMore

section
variable {P : Program} {w : World}
/-- An append of bytes onto a row of one's own. -/
theorem run_src (t ty e : TypeId) (base : Nat) (ht : P.underlying t = some (.slice e)) (hinfo : (P.info? e).map (fun i => (i.zero, i.size, i.bytes)) = some (some (.int .u8 0), 1, 1))
    (v : Value) (n : Nat) (xs : List Value) (hown : w.ownsRow base e 1 v n xs) (A : Option Addr) (m c : Nat) (l : List Int) (hB : BytesIn w A m c l) (hl : n + m ≤ 140737488355328) (hbase : base ≤ w.heap.size) :
    ∃ v' w', (Builtin.append_ #[t, t] ty #[v, .slice A m c]).run P w = .ok v' w' ∧ w'.ownsRow base e 1 v' (n + m) (xs ++ l.map (Value.int .u8)) ∧ w.grownBy w' v.ownBlock ∧ (v'.ownBlock = v.ownBlock ∨ v'.ownBlock = some w.heap.size) := by
  obtain ⟨i0, hi, hzz⟩ := Option.map_eq_some_iff.1 hinfo
  simp only [Prod.mk.injEq] at hzz
  obtain ⟨hz0, hz1, hz2⟩ := hzz
  cases A with
  | none =>
    obtain ⟨rfl, rfl⟩ := hB.nil rfl
    obtain rfl : l = [] := List.eq_nil_of_length_eq_zero hB.len
    exact ⟨v, w, run_append_owned_none (P := P) (w := w) base t ty e i0 1 ht hi v n xs hown, by simpa using hown, ⟨rfl, rfl, rfl, Nat.le_refl _, fun _ _ _ => rfl⟩, .inl rfl⟩
  | some ad =>
    obtain ⟨v', w', hr, h2, h3, _, h5⟩ := run_append_own_at (P := P) w base t ty e i0 (.int .u8 0) 1 1 ht hi hz0 hz1 hz2 rfl (by decide) v n xs hown ad m c (l.map (Value.int .u8)) (by simp [hB.len]) (hB.cells ad rfl) (hB.src).2.2.2 (by unfold maxLen; omega) (by omega) hbase
    exact ⟨v', w', hr, h2, h3, h5⟩
/-- An append of bytes within the room of a row that is known whole. -/
theorem run_room (t ty e : TypeId) (ht : P.underlying t = some (.slice e)) (hinfo : (P.info? e).map (fun i => (i.zero, i.size, i.bytes)) = some (some (.int .u8 0), 1, 1))
    (g n cap : Nat) (cur : Array Value) (hg : w.heap[g]? = some (.cells cur e (0, 0))) (hcap : cap ≤ maxLen) (hsz : cur.size = cap) (A : Option Addr) (m c : Nat) (l : List Int) (hB : BytesIn w A m c l) (hroom : n + m ≤ cap) :
    ∃ w', (Builtin.append_ #[t, t] ty #[.slice (some ⟨g, 0, none⟩) n cap, .slice A m c]).run P w = .ok (.slice (some ⟨g, 0, none⟩) (n + m) cap) w' ∧
      w'.heap[g]? = some (.cells (cur.toList.take n ++ l.map (Value.int .u8) ++ cur.toList.drop (n + m)).toArray e (0, 0)) ∧ Wrote (fun k => k = g) w w' ∧ w'.heap.size = w.heap.size := by
  obtain ⟨i0, hi, hzz⟩ := Option.map_eq_some_iff.1 hinfo
  simp only [Prod.mk.injEq] at hzz
  obtain ⟨hz0, hz1, hz2⟩ := hzz
  cases A with
  | none =>
    obtain ⟨rfl, rfl⟩ := hB.nil rfl
    obtain rfl : l = [] := List.eq_nil_of_length_eq_zero hB.len
    have hown : w.ownsRow 0 e 1 (.slice (some ⟨g, 0, none⟩) n cap) n (cur.toList.take (n * 1)) := ⟨by simp; omega, .inr ⟨g, cap, cur, rfl, Nat.zero_le _, hg, by omega, hcap, by omega, rfl⟩⟩
    refine ⟨w, by have := run_append_owned_none (P := P) (w := w) 0 t ty e i0 1 ht hi _ n _ hown; simpa using this, ?_, Wrote.refl _ _, rfl⟩
    rw [hg]; simp
  | some ad =>
    have hr := run_append_room (P := P) w t ty e i0 ht hi g n cap cur hg ad m c (l.map (Value.int .u8)) (by simp [hB.len, hz1]) (hB.cells ad rfl) (hB.src).2.2.2 hroom (by simp [hB.len, hz1]; omega)
    refine ⟨_, hr, ?_, ⟨rfl, rfl, rfl, by simp [World.setRow], fun k _ hk => setRow_other _ _ _ _ hk⟩, by simp [World.setRow]⟩
    rw [setRow_heap _ _ _ _ _ _ hg]
    simp [hz1, hB.len]
/-- append(nil, src...): a copy of its own. -/
theorem run_dup (t ty e : TypeId) (ht : P.underlying t = some (.slice e)) (hinfo : (P.info? e).map (fun i => (i.zero, i.size, i.bytes)) = some (some (.int .u8 0), 1, 1))
    (A : Option Addr) (m c : Nat) (l : List Int) (hB : BytesIn w A m c l) (hl : m ≤ 140737488355328) :
    ∃ v' w', (Builtin.append_ #[t, t] ty #[.slice none 0 0, .slice A m c]).run P w = .ok v' w' ∧ ∃ A2 c2, v' = .slice A2 m c2 ∧ BytesIn w' A2 m c2 l ∧ (∀ y, A2 = some y → w.heap.size ≤ y.block) ∧ w'.ownsRow w.heap.size e 1 (.slice A2 m c2) m (l.map (Value.int .u8)) ∧ Below w.heap.size w w' := by
  obtain ⟨v', w', hr, h2, h3, _⟩ := run_src (P := P) (w := w) t ty e w.heap.size ht hinfo (.slice none 0 0) 0 [] (World.ownsRow_nil _ _ _ _) A m c l hB (by omega) (Nat.le_refl _)
  rw [Nat.zero_add, List.nil_append] at h2
  obtain ⟨A2, c2, rfl, hb⟩ := BytesIn.own h2 hB.fits
  exact ⟨_, w', hr, A2, c2, rfl, hb, fun y hy => (h2.lt y.block (by subst hy; rfl)).1, h2, ⟨h3.os, h3.tape, h3.output, h3.size, fun k hk => h3.block k hk (by simp [Value.ownBlock])⟩⟩
end

/-- A region's step that appends, by its run. -/
theorem step_append_run {P : Program} {w : World} {ops : Array Oper} {o : Oper} {a : Act} {K : Act → World → Prop} {Q : Exit → Act → World → Prop} {E : Prop} (hgd : o.guard = none) (s x : Operand) (t : TypeId)
    (ho : o.op = .call { callee := .builtin .append, args := #[s, x], argTypes := #[t, t] }) (v y : Value) (hs : a.eval s = v) (hx : a.eval x = y) (R : Value → World → Prop)
    (hrun : ∃ v' w', (Builtin.append_ #[t, t] o.type #[v, y]).run P w = .ok v' w' ∧ R v' w') (h : ∀ v' w', R v' w' → K (a.put o.dst v') w') :
    if Region.wanted o (yielded ops a.tmps) = true then Oper.wp P o a w K Q else E := by
  have hw : Region.wanted o (yielded ops a.tmps) = true := by simp [Region.wanted, hgd]
  rw [if_pos hw]
  obtain ⟨v', w', hr, hR⟩ := hrun
  unfold Oper.wp execOp
  simp only [ho, resolve, invoke, builtin, Sem.run_bind, Sem.run_pure, Result.andThen_ok, List.map_toArray, List.map_cons, List.map_nil, hs, hx, hr]
  exact h v' w' hR
end Go.Proofs.YtfanlhkpblemgaaDoor
