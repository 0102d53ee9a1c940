/- Maps of one's own whose elements are pointers to blocks: what they hold as a function of the key, and the laws of their operations. -/
import Derived.Test.YtfanlhkpblemgaaRd
import Derived.Maps.Views
import Derived.Maps.OwnSet
import Derived.Maps.RangeWalk
import Derived.StringKeys
namespace Go.Rd
open Go.RowKit Go.Maps Go.ChangeMaps Go.MapKept Go.WideShapes
set_option linter.unusedVariables false

/-- How a pointer to a block reads, as an element of a map. -/
def ptrD (b : Nat) : DataW Unit := .lit (.int .i64 b)
def ptrR : Value → Option (DataW Unit × List MemPlace)
  | .pointer (some ⟨b, 0, none⟩) => some (ptrD b, [])
  | .pointer none => some (.nil, [])
  | _ => none
theorem ptrD_inj {a b : Nat} (h : ptrD a = ptrD b) : a = b := by
  unfold ptrD at h
  injection h with h
  injection h with _ h
  exact Int.ofNat.inj h
theorem ptrR_inv {v : Value} {y : DataW Unit × List MemPlace} (h : ptrR v = some y) : (∃ b, v = .pointer (some ⟨b, 0, none⟩) ∧ y.1 = ptrD b) ∨ (v = .pointer none ∧ y.1 = .nil) := by
  unfold ptrR at h
  split at h
  · cases h; exact .inl ⟨_, rfl, rfl⟩
  · cases h; exact .inr ⟨rfl, rfl⟩
  · cases h
theorem ptr_at {v : Value} {ps : List MemPlace} {b : Nat} (h : ptrR v = some (ptrD b, ps)) : v = .pointer (some ⟨b, 0, none⟩) := by
  rcases ptrR_inv h with ⟨c, rfl, e⟩ | ⟨_, e⟩
  · rw [ptrD_inj e]
  · cases e
theorem nil_at {v : Value} {ps : List MemPlace} (h : ptrR v = some (.nil, ps)) : v = .pointer none := by
  rcases ptrR_inv h with ⟨c, rfl, e⟩ | ⟨rfl, _⟩
  · cases e
  · rfl

open Classical in
/-- A key given a block; a key taken away. -/
noncomputable def upd (F : Lit → Option Nat) (k : Lit) (v : Option Nat) : Lit → Option Nat := fun k' => if k' = k then v else F k'
theorem upd_same (F : Lit → Option Nat) (k : Lit) (v : Option Nat) : upd F k v k = v := by unfold upd; simp
theorem upd_other (F : Lit → Option Nat) {k k' : Lit} (v : Option Nat) (h : k' ≠ k) : upd F k v k' = F k' := by unfold upd; simp [h]

/-- A datum holds what a function says. -/
def Holds (D : DataW Unit) (F : Lit → Option Nat) : Prop := Tidy D ∧ ∀ k, (F k = none → has D k = false) ∧ ∀ b, F k = some b → has D k = true ∧ ∀ z, D.atKey k z = ptrD b
/-- Block mb of w is a map with n entries that holds what F says. -/
def PMap (P : Program) (k : TypeId) (w : World) (mb : Nat) (F : Lit → Option Nat) (n : Nat) : Prop := ∃ D : DataW Unit, w.ownsMap P k ptrR mb n D ∧ size D = n ∧ Holds D F

theorem Holds.start : Holds (.map []) (fun _ => none) := ⟨tidy_empty, fun k => ⟨fun _ => rfl, fun b h => by cases h⟩⟩
theorem Holds.has_iff {D : DataW Unit} {F : Lit → Option Nat} (h : Holds D F) (k : Lit) : has D k = (F k).isSome := by
  cases hf : F k with
  | none => exact (h.2 k).1 hf
  | some b => exact ((h.2 k).2 b hf).1
theorem Holds.put {D : DataW Unit} {F : Lit → Option Nat} (h : Holds D F) {k : Lit} (hk : WideAt.IsKeyLit k) (b : Nat) : Holds (D.put k (ptrD b)) (upd F k (some b)) := by
  refine ⟨h.1.put hk _, fun k' => ?_⟩
  by_cases e : k' = k
  · subst e
    rw [upd_same]
    exact ⟨fun h => (by cases h), fun c hc => by cases hc; exact ⟨has_put_same h.1.isMap hk _, fun z => atKey_put_same h.1.isMap hk _ z⟩⟩
  · rw [upd_other F _ e, has_put_other e]
    exact ⟨(h.2 k').1, fun c hc => ⟨((h.2 k').2 c hc).1, fun z => by rw [atKey_put_other e]; exact ((h.2 k').2 c hc).2 z⟩⟩
theorem Holds.del {D : DataW Unit} {F : Lit → Option Nat} (h : Holds D F) (k : Lit) : Holds (D.del k) (upd F k none) := by
  refine ⟨h.1.del k, fun k' => ?_⟩
  by_cases e : k' = k
  · subst e
    rw [upd_same]
    exact ⟨fun _ => has_del_same, fun c hc => by cases hc⟩
  · rw [upd_other F _ e, has_del_other e]
    exact ⟨(h.2 k').1, fun c hc => ⟨((h.2 k').2 c hc).1, fun z => by rw [atKey_del_other e]; exact ((h.2 k').2 c hc).2 z⟩⟩
theorem Holds.funext_ {D : DataW Unit} {F G : Lit → Option Nat} (h : Holds D F) (hg : ∀ k, G k = F k) : Holds D G := by
  obtain rfl : G = F := _root_.funext hg
  exact h

section
variable {P : Program} {k e t : TypeId} {w w' : World} {mb n : Nat} {F : Lit → Option Nat}

theorem owns_exact {D : DataW Unit} {m : Nat} (h : w.ownsMap P k ptrR mb m D) : w.ownsMap P k ptrR mb (size D) D := by
  obtain ⟨es, clock, hb, hF, _, rfl⟩ := h
  have e1 : size (DataW.map ((es.toList.map (WideElems.rg P k ptrR)).foldr DataW.insert [])) = es.size := by simp [size, length_sorted]
  exact ⟨es, clock, hb, hF, by omega, rfl⟩
theorem PMap.made (P : Program) (k : TypeId) (w : World) : PMap P k (w.alloc (.map #[] 0)) w.heap.size (fun _ => none) 0 :=
  ⟨.map [], World.ownsMap_made _ _ _ _, rfl, Holds.start⟩
theorem PMap.block (h : PMap P k w mb F n) : ∃ es clock, w.heap[mb]? = some (.map es clock) := by
  obtain ⟨D, ⟨es, clock, hb, _⟩, _⟩ := h
  exact ⟨es, clock, hb⟩
theorem PMap.lt (h : PMap P k w mb F n) : mb < w.heap.size := by
  obtain ⟨es, clock, hb⟩ := h.block
  exact lt_of_heap hb
theorem PMap.same (h : PMap P k w mb F n) (hb : w'.heap[mb]? = w.heap[mb]?) : PMap P k w' mb F n := by
  obtain ⟨D, ⟨es, clock, h1, h2⟩, h3⟩ := h
  exact ⟨D, ⟨es, clock, hb.trans h1, h2⟩, h3⟩
theorem PMap.wrote {S : Nat → Prop} (h : PMap P k w mb F n) (hw : Wrote S w w') (hs : ¬ S mb) : PMap P k w' mb F n := h.same (hw.block mb h.lt hs)
theorem PMap.below {B : Nat} (h : PMap P k w mb F n) (hb : Below w.heap.size w w') : PMap P k w' mb F n := h.wrote (S := fun _ => False) (Wrote.of_below hb) id
theorem PMap.drewN (h : PMap P k w mb F n) (j : Nat) : PMap P k (w.drewN j) mb F n := h.same rfl
/-- A map's block is no block of cells. -/
theorem PMap.ne_cells (h : PMap P k w mb F n) {b : Nat} {c : Array Value} {t : TypeId} {fr : Nat × Nat} (hb : w.heap[b]? = some (.cells c t fr)) : b ≠ mb := by
  obtain ⟨es, clock, h1⟩ := h.block
  rintro rfl
  rw [h1] at hb
  cases hb
theorem wrote_turned {b : Nat} (h : w.mapTurned w' b) : Wrote (fun k => k = b) w w' ∧ w'.heap.size = w.heap.size := by
  obtain ⟨es, clock, es', clock', hb, rfl⟩ := h
  refine ⟨⟨rfl, rfl, rfl, by simp [setBlock], fun i _ hi => heap_setBlock_other hb _ (fun e => hi e)⟩, by simp [setBlock]⟩

/-- A lookup of a key that is there. -/
theorem PMap.look_ok (h : PMap P k w mb F n) (K : Keyed P k) (ht : P.underlying t = some (.map k e)) (hz : (zeroValue e).run P w = .ok (.pointer none) w) {key : Value} {kl : Lit} (hkey : keyOf P k key = some kl) {b : Nat} (hf : F kl = some b) :
    (Instr.lookup t (.map (some mb)) key true).run P w = .ok (.tuple #[.pointer (some ⟨b, 0, none⟩), .bool true]) w := by
  obtain ⟨D, h1, _, h2⟩ := h
  obtain ⟨v, ps, hr, hv⟩ := h1.look_ok K ht hz (zd := .nil) (zp := []) rfl hkey
  have := (h2.2 kl).2 b hf
  rw [this.2] at hv
  rw [this.1, ptr_at hv] at hr
  exact hr
theorem PMap.look_no (h : PMap P k w mb F n) (K : Keyed P k) (ht : P.underlying t = some (.map k e)) (hz : (zeroValue e).run P w = .ok (.pointer none) w) {key : Value} {kl : Lit} (hkey : keyOf P k key = some kl) (hf : F kl = none) :
    (Instr.lookup t (.map (some mb)) key true).run P w = .ok (.tuple #[.pointer none, .bool false]) w := by
  obtain ⟨D, h1, _, h2⟩ := h
  obtain ⟨v, ps, hr, hv⟩ := h1.look_ok K ht hz (zd := .nil) (zp := []) rfl hkey
  have h3 := (h2.2 kl).1 hf
  rw [atKey_of_not_has h3] at hv
  rw [h3, nil_at hv] at hr
  exact hr
theorem PMap.look (h : PMap P k w mb F n) (K : Keyed P k) (ht : P.underlying t = some (.map k e)) (hz : (zeroValue e).run P w = .ok (.pointer none) w) {key : Value} {kl : Lit} (hkey : keyOf P k key = some kl) {b : Nat} (hf : F kl = some b) :
    (Instr.lookup t (.map (some mb)) key false).run P w = .ok (.pointer (some ⟨b, 0, none⟩)) w := by
  obtain ⟨D, h1, _, h2⟩ := h
  obtain ⟨v, ps, hr, hv⟩ := h1.lookup K ht hz (zd := .nil) (zp := []) rfl hkey
  have := (h2.2 kl).2 b hf
  rw [this.2] at hv
  rw [ptr_at hv] at hr
  exact hr
/-- How many entries. -/
theorem PMap.len_run (h : PMap P k w mb F n) (ht : P.underlying t = some (.map k e)) (ty : TypeId) : (Builtin.len_ #[t] ty #[.map (some mb)]).run P w = .ok (.int .i64 n) w := by
  obtain ⟨D, h1, h2, _⟩ := h
  have := h1.len ht ty
  rwa [h2] at this
/-- The number of entries behind a store. -/
noncomputable def updN (F : Lit → Option Nat) (n : Nat) (kl : Lit) : Nat := if (F kl).isSome then n else n + 1
noncomputable def delN (F : Lit → Option Nat) (n : Nat) (kl : Lit) : Nat := if (F kl).isSome then n - 1 else n
theorem updN_le (F : Lit → Option Nat) (n : Nat) (kl : Lit) : updN F n kl ≤ n + 1 := by unfold updN; split <;> omega
theorem delN_le (F : Lit → Option Nat) (n : Nat) (kl : Lit) : delN F n kl ≤ n := by unfold delN; split <;> omega
theorem PMap.put_run (h : PMap P k w mb F n) (K : Keyed P k) (ht : P.underlying t = some (.map k e)) (hn : n < maxLen) {key : Value} {kl : Lit} (hkey : keyOf P k key = some kl) (hk : WideAt.IsKeyLit kl) (b : Nat) :
    ∃ w', (Instr.mapUpdate t (.map (some mb)) key (.pointer (some ⟨b, 0, none⟩))).run P w = .ok () w' ∧ PMap P k w' mb (upd F kl (some b)) (updN F n kl) ∧ w.mapTurned w' mb := by
  obtain ⟨D, h1, h2, h3⟩ := h
  obtain ⟨w', hr, ho, hm⟩ := h1.store K ht hn hkey (show ptrR (.pointer (some ⟨b, 0, none⟩)) = some (ptrD b, []) from rfl)
  refine ⟨w', hr, ⟨D.put kl (ptrD b), ?_, ?_, h3.put hk b⟩, hm⟩
  · have := owns_exact ho
    rw [size_put h3.1, h3.has_iff, h2] at this
    exact this
  · rw [size_put h3.1, h3.has_iff, h2]
    rfl
theorem PMap.del_run (h : PMap P k w mb F n) (K : Keyed P k) (ht : P.underlying t = some (.map k e)) {key : Value} {kl : Lit} (hkey : keyOf P k key = some kl) (ty : TypeId) :
    ∃ w', (Builtin.delete_ #[t, k] ty #[.map (some mb), key]).run P w = .ok (.tuple #[]) w' ∧ PMap P k w' mb (upd F kl none) (delN F n kl) ∧ w.mapTurned w' mb := by
  obtain ⟨D, h1, h2, h3⟩ := h
  obtain ⟨w', hr, ho, hm⟩ := h1.drop K ht hkey ty
  have hs : size (D.del kl) = delN F n kl := by
    have := size_del (k := kl) h3.1
    rw [h3.has_iff, h2] at this
    unfold delN
    split at this <;> rename_i hh <;> simp [hh] <;> omega
  refine ⟨w', hr, ⟨D.del kl, ?_, hs, h3.del kl⟩, hm⟩
  have := owns_exact ho
  rwa [hs] at this
end

section
variable {P : Program} (w : World) {ops : Array Oper} {rest : List Oper} {o : Oper} {a : Act} {Q : Exit → Act → World → Prop} {k e t : TypeId} {mb n : Nat} {F : Lit → Option Nat}
/-- 'm[k] = p' at the operation. -/
theorem wpList_put_pmap (hg : o.guard = none) (m x v : Operand) (t : TypeId) (hop : o.op = Op.mapUpdate t m x v) (k e : TypeId) (K : Keyed P k) (ht : P.underlying t = some (.map k e)) (mb n : Nat) (F : Lit → Option Nat)
    (hm : a.eval m = .map (some mb)) (h : PMap P k w mb F n) (hn : n < maxLen) (key : Value) (kl : Lit) (b : Nat) (hx : a.eval x = key) (hv : a.eval v = .pointer (some ⟨b, 0, none⟩)) (hkey : keyOf P k key = some kl) (hk : WideAt.IsKeyLit kl)
    (hK : ∀ w', PMap P k w' mb (upd F kl (some b)) (updN F n kl) → w.mapTurned w' mb → wpList P ops Q rest (a.put o.dst undef) w') : wpList P ops Q (o :: rest) a w := by
  refine wpList_plain hg fun K' hK' => ?_
  obtain ⟨w', hrun, r1, r2⟩ := h.put_run K ht hn hkey hk b
  unfold Oper.wp
  simp [execOp, hop, hm, hx, hv, hrun, Result.andThen]
  exact hK' _ _ (hK w' r1 r2)
/-- 'delete(m, k)' at the operation. -/
theorem wpList_del_pmap (hg : o.guard = none) (m x : Operand) (t k : TypeId) (hop : o.op = Op.call { callee := Callee.builtin Builtin.delete, args := #[m, x], argTypes := #[t, k] }) (e : TypeId) (K : Keyed P k) (ht : P.underlying t = some (.map k e)) (mb n : Nat) (F : Lit → Option Nat)
    (hm : a.eval m = .map (some mb)) (h : PMap P k w mb F n) (key : Value) (kl : Lit) (hx : a.eval x = key) (hkey : keyOf P k key = some kl)
    (hK : ∀ w', PMap P k w' mb (upd F kl none) (delN F n kl) → w.mapTurned w' mb → wpList P ops Q rest (a.put o.dst (.tuple #[])) w') : wpList P ops Q (o :: rest) a w := by
  refine wpList_plain hg fun K' hK' => ?_
  obtain ⟨w', hrun, r1, r2⟩ := h.del_run K ht hkey o.type
  unfold Oper.wp
  simp [execOp, hop, resolve, invoke, builtin, hm, hx, hrun, Result.andThen]
  exact hK' _ _ (hK w' r1 r2)
end

/-! ### ranging -/
theorem length_le_of_sub {α : Type} : ∀ {l l' : List α}, l.Nodup → (∀ x ∈ l, x ∈ l') → l.length ≤ l'.length
  | [], _, _, _ => Nat.zero_le _
  | x :: l, l', hn, hs => by
    obtain ⟨s, t, rfl⟩ := List.append_of_mem (hs x (by simp))
    have hn' := List.nodup_cons.1 hn
    have := length_le_of_sub (l' := s ++ t) hn'.2 (fun y hy => by
      have h1 := hs y (by simp [hy])
      have hne : y ≠ x := fun e => hn'.1 (e ▸ hy)
      simp only [List.mem_append, List.mem_cons] at h1 ⊢
      rcases h1 with h | h | h
      · exact .inl h
      · exact absurd h hne
      · exact .inr h)
    simp at this ⊢
    omega
/-- Of the keys those of L have come, each once; 'left' says which are still to come. -/
def Came (F : Lit → Option Nat) (left : Lit → Bool) (L : List Lit) : Prop := L.Nodup ∧ ∀ k, k ∈ L ↔ ((F k).isSome = true ∧ left k = false)
theorem Came.start {D : DataW Unit} {F : Lit → Option Nat} (h : Holds D F) : Came F (has D) [] := by
  refine ⟨List.nodup_nil, fun k => ?_⟩
  rw [h.has_iff]
  cases F k <;> simp
theorem sameKey_self {k : Lit} (hk : WideAt.IsKeyLit k) : k.sameKey k = true := by
  cases k <;> simp [WideAt.IsKeyLit] at hk <;> simp [Lit.sameKey]
theorem Came.more {F : Lit → Option Nat} {left : Lit → Bool} {L : List Lit} {kl : Lit} (h : Came F left L) (hk : WideAt.IsKeyLit kl) (hl : left kl = true) (hf : (F kl).isSome = true) : Came F (fun z => left z && !z.sameKey kl) (L ++ [kl]) := by
  refine ⟨?_, fun k => ?_⟩
  · rw [List.nodup_append]
    refine ⟨h.1, by simp, fun a ha b hb e => ?_⟩
    simp only [List.mem_singleton] at hb
    subst hb e
    have := ((h.2 a).1 ha).2
    rw [hl] at this
    cases this
  · simp only [List.mem_append, List.mem_singleton, h.2 k]
    by_cases e : k = kl
    · subst e
      simp [hf, sameKey_self hk]
    · simp [e, sameKey_ne e]
theorem Came.done {F : Lit → Option Nat} {left : Lit → Bool} {L : List Lit} (h : Came F left L) (hl : ∀ kl, left kl = false) : L.Nodup ∧ ∀ k, k ∈ L ↔ (F k).isSome = true := ⟨h.1, fun k => by rw [h.2 k, hl k]; simp⟩
/-- As many keys as entries. -/
theorem PMap.count {P : Program} {k : TypeId} {w : World} {mb n : Nat} {F : Lit → Option Nat} {L : List Lit} (h : PMap P k w mb F n) (K : Keyed P k) (h1 : L.Nodup) (h2 : ∀ k, k ∈ L ↔ (F k).isSome = true) : L.length = n := by
  obtain ⟨D, ho, hs, hD⟩ := h
  obtain ⟨es, clock, hb, hF, _, rfl⟩ := ho
  obtain ⟨es2, e2, hp⟩ := hD.1
  injection e2 with e2
  have hsz : es2.length = n := by rw [← hs, ← e2]; rfl
  have hkeys : ∀ p ∈ es2, WideAt.IsKeyLit p.1 := by
    intro p hpm
    rw [← e2] at hpm
    have hpm2 : p ∈ es.toList.map (WideElems.rg P k ptrR) := by
      have := (List.Perm.mem_iff (sorted_perm (es.toList.map (WideElems.rg P k ptrR)))).1 hpm
      exact this
    obtain ⟨v, hv⟩ := fit_keys hF p hpm2
    exact K.key hv
  have hm : ∀ x, x ∈ es2.map (·.1) ↔ (F x).isSome = true := by
    intro x
    rw [← hD.has_iff, e2, has_eq, List.any_eq_true]
    constructor
    · intro hx
      obtain ⟨p, hp1, rfl⟩ := List.mem_map.1 hx
      exact ⟨p, hp1, sameKey_self (hkeys p hp1)⟩
    · rintro ⟨p, hp1, hp2⟩
      rw [← WideAt.sameKey_eq hp2]
      exact List.mem_map.2 ⟨p, hp1, rfl⟩
  have hn : (es2.map (·.1)).Nodup := by
    rw [List.Nodup, List.pairwise_map]
    exact hp
  have a1 := length_le_of_sub h1 (fun x hx => (hm x).2 ((h2 x).1 hx))
  have a2 := length_le_of_sub hn (fun x hx => (h2 x).2 ((hm x).1 hx))
  rw [List.length_map] at a1 a2
  omega
end Go.Rd
