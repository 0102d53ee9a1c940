/- Plain lists: rooted paths, their elements, and their clean form. -/
import Derived.Lib.CleanSame
namespace Go.Pt
open Go.Lib.Pa

theorem els_ne : ∀ l : List UInt8, els l ≠ []
  | [] => by simp [els]
  | c :: t => by
    unfold els
    split
    · simp
    · cases h : els t <;> simp

theorem els_app : ∀ a b : List UInt8, els (a ++ 47 :: b) = els a ++ els b
  | [], b => by simp [els]
  | c :: a, b => by
    show els (c :: (a ++ 47 :: b)) = _
    rw [els, els_app a b]
    by_cases h : c = 47
    · rw [if_pos h, els, if_pos h]; rfl
    · rw [if_neg h, els, if_neg h]
      cases h2 : els a with
      | nil => exact absurd h2 (els_ne a)
      | cons e r => rfl

theorem els_no47 : ∀ (l : List UInt8), ∀ e ∈ els l, 47 ∉ e
  | [], e, h => by simp [els] at h; subst h; simp
  | c :: t, e, h => by
    unfold els at h
    split at h
    · rcases List.mem_cons.1 h with rfl | h
      · simp
      · exact els_no47 t e h
    · rename_i hc
      cases h2 : els t with
      | nil => exact absurd h2 (els_ne t)
      | cons x r =>
        rw [h2] at h
        have ih := els_no47 t
        rcases List.mem_cons.1 h with rfl | h
        · have := ih x (by rw [h2]; simp)
          simp only [List.mem_cons, not_or]
          exact ⟨fun e => hc e.symm, this⟩
        · exact ih e (by rw [h2]; simp [h])

theorem els_clean {l : List UInt8} (h : 47 ∉ l) : els l = [l] := by
  induction l with
  | nil => rfl
  | cons c t ih =>
    simp only [List.mem_cons, not_or] at h
    rw [els, if_neg (fun e => h.1 e.symm), ih h.2]

/-- An element that a clean rooted path may hold. -/
def Fine (e : List UInt8) : Prop := e ≠ [] ∧ e ≠ [46] ∧ e ≠ [46, 46] ∧ 47 ∉ e
/-- The kept elements, the last one first. -/
def stack (l : List UInt8) : List (List UInt8) := (els l).foldl (cleanStep true) []
def inter (L : List (List UInt8)) : List UInt8 := ([47] : List UInt8).intercalate L
/-- The clean form of a slash and l. -/
def nrm (l : List UInt8) : List UInt8 := 47 :: inter (stack l).reverse

theorem nrm_eq (l : List UInt8) : cleanEls (47 :: l) = nrm l := by
  have h : els (47 :: l) = [] :: els l := by rw [els, if_pos rfl]
  unfold cleanEls nrm stack inter
  simp [h, cleanStep]

theorem step_fine {st : List (List UInt8)} {e : List UInt8} (h : ∀ x ∈ st, Fine x) (he : 47 ∉ e) : ∀ x ∈ cleanStep true st e, Fine x := by
  unfold cleanStep
  split
  · exact h
  · rename_i h1
    simp only [not_or] at h1
    split
    · cases st with
      | nil => simp
      | cons y r =>
        have hy := h y (by simp)
        simp only [hy.2.2.1, if_false]
        intro x hx
        exact h x (by simp [hx])
    · rename_i h2
      intro x hx
      rcases List.mem_cons.1 hx with rfl | hx
      · exact ⟨h1.1, h1.2, h2, he⟩
      · exact h x hx

theorem fold_fine : ∀ (L : List (List UInt8)) (st : List (List UInt8)), (∀ e ∈ L, 47 ∉ e) → (∀ x ∈ st, Fine x) → ∀ x ∈ L.foldl (cleanStep true) st, Fine x
  | [], st, _, h => h
  | e :: L, st, hL, h => fold_fine L _ (fun x hx => hL x (by simp [hx])) (step_fine h (hL e (by simp)))

theorem stack_fine (l : List UInt8) : ∀ x ∈ stack l, Fine x := fold_fine _ _ (els_no47 l) (by simp)

theorem fold_push : ∀ (L st : List (List UInt8)), (∀ x ∈ L, Fine x) → L.foldl (cleanStep true) st = L.reverse ++ st
  | [], st, _ => rfl
  | e :: L, st, h => by
    have he := h e (by simp)
    have hs : cleanStep true st e = e :: st := by
      unfold cleanStep
      rw [if_neg (by simp [he.1, he.2.1]), if_neg he.2.2.1]
    rw [List.foldl_cons, hs, fold_push L _ (fun x hx => h x (by simp [hx]))]
    simp

theorem inter_cons2 (e x : List UInt8) (L : List (List UInt8)) : inter (e :: x :: L) = e ++ 47 :: inter (x :: L) := by
  unfold inter
  simp [List.intercalate, List.intersperse]

theorem els_inter : ∀ (L : List (List UInt8)), L ≠ [] → (∀ x ∈ L, 47 ∉ x) → els (inter L) = L
  | [], h, _ => absurd rfl h
  | [e], _, h => by
    have : inter [e] = e := by simp [inter, List.intercalate]
    rw [this]; exact els_clean (h e (by simp))
  | e :: x :: L, _, h => by
    rw [inter_cons2, els_app, els_clean (h e (by simp)), els_inter (x :: L) (by simp) (fun y hy => h y (by simp [hy]))]
    rfl

theorem stack_slash (l : List UInt8) : stack (47 :: l) = stack l := by
  unfold stack
  have h : els (47 :: l) = [] :: els l := by rw [els, if_pos rfl]
  rw [h, List.foldl_cons]
  simp [cleanStep]

theorem stack_inter (L : List (List UInt8)) (h : ∀ x ∈ L, Fine x) : stack (inter L) = L.reverse := by
  cases L with
  | nil => simp [inter, stack, els, List.intercalate, cleanStep]
  | cons e L =>
    unfold stack
    rw [els_inter _ (by simp) (fun x hx => (h x hx).2.2.2), fold_push _ _ h, List.append_nil]

theorem stack_nrm (l : List UInt8) : stack (nrm l) = stack l := by
  unfold nrm
  rw [stack_slash, stack_inter _ (fun x hx => stack_fine l x (by simpa using hx)), List.reverse_reverse]

theorem stack_app (a b : List UInt8) : stack (a ++ 47 :: b) = (els b).foldl (cleanStep true) (stack a) := by
  unfold stack
  rw [els_app, List.foldl_append]

/-- A name put behind another one is kept as it is put behind the kept one. -/
theorem nrm_steps (a b : List UInt8) : cleanEls (nrm a ++ 47 :: b) = nrm (a ++ 47 :: b) := by
  have e : nrm a ++ 47 :: b = 47 :: (inter (stack a).reverse ++ 47 :: b) := rfl
  rw [e, nrm_eq]
  unfold nrm
  rw [stack_app, stack_app, stack_inter _ (fun x hx => stack_fine a x (by simpa using hx)), List.reverse_reverse]

theorem inter_nil {L : List (List UInt8)} (h : ∀ x ∈ L, Fine x) (hi : inter L = []) : L = [] := by
  match L, h, hi with
  | [], _, _ => rfl
  | [e], h, hi =>
    have : inter [e] = e := by simp [inter, List.intercalate]
    rw [this] at hi
    exact absurd hi (h e (by simp)).1
  | e :: x :: L, _, hi => rw [inter_cons2] at hi; simp at hi

theorem split_first {a e r s : List UInt8} (ha : 47 ∉ a) (he : 47 ∉ e) (h : a ++ 47 :: r = e ++ 47 :: s) : a = e ∧ r = s := by
  induction a generalizing e with
  | nil =>
    cases e with
    | nil => simpa using h
    | cons c e => simp at h; exact absurd h.1 (by simp only [List.mem_cons, not_or] at he; exact he.1)
  | cons c a ih =>
    simp only [List.mem_cons, not_or] at ha
    cases e with
    | nil => simp at h; exact absurd h.1.symm ha.1
    | cons d e =>
      simp only [List.mem_cons, not_or] at he
      simp only [List.cons_append, List.cons.injEq] at h
      obtain ⟨rfl, h⟩ := h
      obtain ⟨rfl, rfl⟩ := ih ha.2 he.2 h
      exact ⟨rfl, rfl⟩

/-- Up to the first slash of a text of fine elements stands the first one. -/
theorem inter_head {L : List (List UInt8)} {a r : List UInt8} (hL : ∀ x ∈ L, Fine x) (ha : 47 ∉ a) (h : inter L = a ++ 47 :: r) : ∃ M, L = a :: M ∧ M ≠ [] ∧ inter M = r := by
  match L, hL, h with
  | [], _, h => simp [inter, List.intercalate] at h
  | [e], hL, h =>
    have h1 : inter [e] = e := by simp [inter, List.intercalate]
    rw [h1] at h
    exact absurd (show 47 ∈ e by rw [h]; simp) (hL e (by simp)).2.2.2
  | e :: x :: L, hL, h =>
    rw [inter_cons2] at h
    obtain ⟨rfl, rfl⟩ := split_first (hL e (by simp)).2.2.2 ha h
    exact ⟨x :: L, rfl, by simp, rfl⟩
theorem inter_last {L : List (List UInt8)} (hL : ∀ x ∈ L, Fine x) (hn : L ≠ []) (ha : 47 ∉ inter L) : L = [inter L] := by
  match L, hL, hn, ha with
  | [], _, hn, _ => exact absurd rfl hn
  | [e], _, _, _ => simp [inter, List.intercalate]
  | e :: x :: L, _, _, ha => rw [inter_cons2] at ha; simp at ha

end Go.Pt
