/- FnHandlePlaces: the map of what was read, and the state of the law's loop. -/
import Derived.Test.YtnkhfdnahnphdaaDoorHrWalk
namespace Go.Proofs.YtnkhfdnahnphdaaDoor
open Go.ChangeShapes Go.WideShapes Go.ChangeAt Go.RowKit Go.Rd
set_option linter.unusedVariables false
open Go.Proofs.YtnkhfdnahnphdaaDoorW.PrintWords Go.Proofs.YtnkhfdnahnphdaaDoorW.PrintLast Go.Proofs.YtnkhfdnahnphdaaDoorW.PrintMore

/-- How a slice of a block of its own reads, as an element of a map. -/
def sliceD (b n c : Nat) : DataW Unit := .agg [.lit (.int .i64 b), .lit (.int .i64 n), .lit (.int .i64 c)]
def sliceR : Value → Option (DataW Unit × List MemPlace)
  | .slice (some ⟨b, 0, none⟩) n c => some (sliceD b n c, [])
  | _ => none
theorem sliceR_mk (b n c : Nat) : sliceR (.slice (some ⟨b, 0, none⟩) n c) = some (sliceD b n c, []) := rfl
theorem sliceR_inv {v : Value} {y : DataW Unit × List MemPlace} (h : sliceR v = some y) : ∃ x : Nat × Nat × Nat, v = .slice (some ⟨x.1, 0, none⟩) x.2.1 x.2.2 := by
  unfold sliceR at h
  split at h
  · rename_i b n c
    exact ⟨(b, n, c), rfl⟩
  · cases h
theorem sliceD_inj {b n c b' n' c' : Nat} (h : sliceD b n c = sliceD b' n' c') : b = b' ∧ n = n' ∧ c = c' := by
  unfold sliceD at h
  simp at h
  omega

theorem law3 : Maps.Keyed Tryd.prog 3 := Maps.int_keyed Tryd.underlying3

/-- The map of what was read: each key is a step's number, each element the bytes that this step's answer has. -/
def ReadsOk (w : World) (mb : Nat) (As : List Ans) : Prop :=
  ∃ (m : Nat) (D : DataW Unit), w.ownsMap Tryd.prog 3 sliceR mb m D ∧ m ≤ As.length ∧ Maps.IsMap D ∧
    ∀ kl y, (∀ zd, D.atKey kl zd = y) → ∃ (j b n c : Nat) (a : Ans), kl = .int .i64 (j : Int) ∧ As[j]? = some a ∧ y = sliceD b n c ∧ BytesIn w (some ⟨b, 0, none⟩) n c a.data ∧ Typed w b 5
theorem ReadsOk.start (w : World) : ReadsOk (w.alloc (.map #[] 0)) w.heap.size [] := by
  refine ⟨0, .map [], World.ownsMap_made _ _ _ _, Nat.le_refl _, ⟨[], rfl⟩, fun kl y h => ?_⟩
  have h1 := h (.lit (.int .i64 0))
  have h2 := h (.lit (.int .i64 1))
  simp [DataW.atKey] at h1 h2
  rw [← h2] at h1
  simp at h1
theorem Typed.wrote {w w' : World} {S : Nat → Prop} {b : Nat} {t : TypeId} (h : Typed w b t) (hw : Wrote S w w') (hs : ¬ S b) : Typed w' b t := by
  obtain ⟨c, fr, h⟩ := h
  exact ⟨c, fr, (hw.block b (lt_of_heap h) hs).trans h⟩
/-- Blocks of other types than bytes. -/
def NoBytes (w : World) (S : Nat → Prop) : Prop := ∀ k, S k → ∃ c t fr, w.heap[k]? = some (.cells c t fr) ∧ t ≠ 5
theorem ReadsOk.wrote {w w' : World} {S : Nat → Prop} {mb : Nat} {As : List Ans} (h : ReadsOk w mb As) (hw : Wrote S w w') (hs : NoBytes w S) : ReadsOk w' mb As := by
  obtain ⟨m, D, h1, h2, h3, h4⟩ := h
  have hmb : ¬ S mb := fun e => by
    obtain ⟨es, clock, hb, _⟩ := h1
    obtain ⟨c, t, fr, hc, _⟩ := hs mb e
    rw [hb] at hc
    cases hc
  refine ⟨m, D, ?_, h2, h3, fun kl y hy => ?_⟩
  · obtain ⟨es, clock, hb, hrest⟩ := h1
    exact ⟨es, clock, (hw.block mb (lt_of_heap hb) hmb).trans hb, hrest⟩
  · obtain ⟨j, b, n, c, a, e1, e2, e3, e4, e5⟩ := h4 kl y hy
    have hb : ¬ S b := fun e => by
      obtain ⟨c', t, fr, hc, ht⟩ := hs b e
      obtain ⟨c2, fr2, hc2⟩ := e5
      rw [hc] at hc2
      injection hc2 with hc2
      injection hc2 with _ hc2
      exact ht hc2
    exact ⟨j, b, n, c, a, e1, e2, e3, bytes_wrote e4 hw (fun y hy => by cases hy; exact hb), e5.wrote hw hb⟩
theorem ReadsOk.more {w : World} {mb : Nat} {As : List Ans} (h : ReadsOk w mb As) (a : Ans) : ReadsOk w mb (As ++ [a]) := by
  obtain ⟨m, D, h1, h2, h3, h4⟩ := h
  refine ⟨m, D, h1, by simp; omega, h3, fun kl y hy => ?_⟩
  obtain ⟨j, b, n, c, a', e1, e2, e3⟩ := h4 kl y hy
  exact ⟨j, b, n, c, a', e1, by rw [List.getElem?_append_left (List.getElem?_eq_some_iff.1 e2).1]; exact e2, e3⟩
theorem ReadsOk.put {w w' : World} {mb m : Nat} {D : DataW Unit} {As : List Ans} {a : Ans} {b n c : Nat}
    (h4 : ∀ kl y, (∀ zd, D.atKey kl zd = y) → ∃ (j b n c : Nat) (a : Ans), kl = .int .i64 (j : Int) ∧ As[j]? = some a ∧ y = sliceD b n c ∧ BytesIn w (some ⟨b, 0, none⟩) n c a.data ∧ Typed w b 5) (h3 : Maps.IsMap D) (hm : m ≤ As.length)
    (h1 : w'.ownsMap Tryd.prog 3 sliceR mb (m + 1) (D.put (.int .i64 (As.length : Int)) (sliceD b n c))) (hg : w.grownBy w' (some mb)) (hb : BytesIn w (some ⟨b, 0, none⟩) n c a.data) (ht : Typed w b 5) (hmb : ∃ es clock, w.heap[mb]? = some (.map es clock)) :
    ReadsOk w' mb (As ++ [a]) := by
  have hw : Wrote (fun k => some mb = some k) w w' := wrote_grown hg
  have hne : ∀ k, Typed w k 5 → ¬ some mb = some k := fun k hk e => by
    injection e with e
    subst e
    obtain ⟨es, clock, h⟩ := hmb
    obtain ⟨c, fr, hc⟩ := hk
    rw [h] at hc
    cases hc
  refine ⟨m + 1, _, h1, by simp; omega, h3.put _ _, fun kl y hy => ?_⟩
  by_cases e : kl = .int .i64 (As.length : Int)
  · subst e
    have h5 := hy (.lit (.int .i64 0))
    rw [Maps.atKey_put_same h3 (show WideAt.IsKeyLit (.int .i64 (As.length : Int)) from trivial)] at h5
    subst h5
    exact ⟨As.length, b, n, c, a, rfl, by simp, rfl, bytes_wrote hb hw (fun y hy => by cases hy; exact hne b ht), ht.wrote hw (hne b ht)⟩
  · obtain ⟨j, b', n', c', a', e1, e2, e3, e4, e5⟩ := h4 kl y (fun zd => by rw [← hy zd, Maps.atKey_put_other e])
    exact ⟨j, b', n', c', a', e1, by rw [List.getElem?_append_left (List.getElem?_eq_some_iff.1 e2).1]; exact e2, e3, bytes_wrote e4 hw (fun y hy => by cases hy; exact hne b' e5), e5.wrote hw (hne b' e5)⟩
end Go.Proofs.YtnkhfdnahnphdaaDoor
