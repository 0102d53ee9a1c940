/- Plain lists: the specification's way to clean a path: the elements that are not empty, one after the other, and the kept ones joined. -/
import Derived.Test.YtfanlhkpblemgaaPa
import Derived.Lib.Hide
namespace Go.Pt
open Go.Lib.Pa

def nels (l : List UInt8) : List (List UInt8) := (els l).filter (fun e => !e.isEmpty)

theorem nels_split {a b : List UInt8} (ha : 47 ∉ a) : nels (a ++ 47 :: b) = (if a = [] then [] else [a]) ++ nels b := by
  unfold nels
  rw [els_app, els_clean ha, List.filter_append]
  congr 1
  by_cases h : a = []
  · subst h; rfl
  · rw [if_neg h]; cases a with
    | nil => exact absurd rfl h
    | cons c t => rfl
theorem nels_last {a : List UInt8} (ha : 47 ∉ a) : nels a = if a = [] then [] else [a] := by
  unfold nels
  rw [els_clean ha]
  by_cases h : a = []
  · subst h; rfl
  · rw [if_neg h]; cases a with
    | nil => exact absurd rfl h
    | cons c t => rfl

theorem take_more {r : List UInt8} {f k : Nat} (hf : f ≤ k) (hk : k < r.length) : (r.drop f).take (k + 1 - f) = (r.drop f).take (k - f) ++ [r[k]] := by
  rw [show k + 1 - f = (k - f) + 1 by omega, List.take_add_one]
  congr 1
  rw [List.getElem?_drop, show f + (k - f) = k by omega, List.getElem?_eq_getElem hk]
  rfl
theorem cut_at {r : List UInt8} {f k : Nat} (hf : f ≤ k) (hk : k < r.length) (hc : r[k] = 47) : r.drop f = (r.drop f).take (k - f) ++ 47 :: r.drop (k + 1) := by
  have h1 := List.take_append_drop (k - f) (r.drop f)
  rw [List.drop_drop, show f + (k - f) = k by omega, List.drop_eq_getElem_cons hk, hc] at h1
  exact h1.symm

/-- The gathering of the elements of s: W are found, f begins the element under way, k is the place. -/
def FoundEls (s : List UInt8) (W : List (List UInt8)) (f k : Nat) : Prop :=
  (k ≤ s.length ∧ f ≤ k ∧ 47 ∉ (s.drop f).take (k - f) ∧ W ++ nels (s.drop f) = nels s) ∨ (k = s.length + 1 ∧ W = nels s)

theorem found_start (s : List UInt8) : FoundEls s [] 0 0 := .inl ⟨Nat.zero_le _, Nat.le_refl _, by simp, by simp⟩
theorem found_plain {s : List UInt8} {W : List (List UInt8)} {f k : Nat} (h : FoundEls s W f k) (hk : k < s.length) (hc : s[k] ≠ 47) : FoundEls s W f (k + 1) := by
  rcases h with ⟨_, hf, hn, hw⟩ | ⟨h, _⟩
  · refine .inl ⟨hk, by omega, ?_, hw⟩
    rw [take_more hf hk]
    simp only [List.mem_append, List.mem_singleton, not_or]
    exact ⟨hn, fun e => hc e.symm⟩
  · omega
theorem found_le {s : List UInt8} {W : List (List UInt8)} {f k : Nat} (h : FoundEls s W f k) (hk : k ≤ s.length) : f ≤ k := by
  rcases h with ⟨_, hf, _, _⟩ | ⟨h, _⟩
  · exact hf
  · omega
theorem take_nil {s : List UInt8} {f k : Nat} (hk : k ≤ s.length) (hf : f < k) : (s.drop f).take (k - f) ≠ [] := by
  intro h
  have := congrArg List.length h
  simp at this
  omega
theorem found_more {s : List UInt8} {W : List (List UInt8)} {f k : Nat} (h : FoundEls s W f k) (hk : k ≤ s.length) (hc : k = s.length ∨ ∃ h : k < s.length, s[k] = 47) (hf : f < k) :
    FoundEls s (W ++ [(s.drop f).take (k - f)]) (k + 1) (k + 1) := by
  rcases h with ⟨_, hf', hn, hw⟩ | ⟨h, _⟩
  · rcases hc with e | ⟨hk', e⟩
    · refine .inr ⟨by omega, ?_⟩
      have e1 : (s.drop f).take (k - f) = s.drop f := List.take_of_length_le (by simp; omega)
      have hne := take_nil hk hf
      rw [e1] at hn hne ⊢
      rw [← hw, nels_last hn, if_neg hne]
    · refine .inl ⟨hk', Nat.le_refl _, by simp, ?_⟩
      rw [cut_at hf' hk' e, nels_split hn, if_neg (take_nil hk hf)] at hw
      rw [← hw]; simp
  · omega
theorem found_none {s : List UInt8} {W : List (List UInt8)} {k : Nat} (h : FoundEls s W k k) (hk : k ≤ s.length) (hc : k = s.length ∨ ∃ h : k < s.length, s[k] = 47) :
    FoundEls s W (k + 1) (k + 1) := by
  rcases h with ⟨_, hf', hn, hw⟩ | ⟨h, _⟩
  · rcases hc with e | ⟨hk', e⟩
    · refine .inr ⟨by omega, ?_⟩
      have e1 : s.drop k = [] := List.drop_of_length_le (by omega)
      rw [← hw, e1]
      simp [nels, els]
    · refine .inl ⟨hk', Nat.le_refl _, by simp, ?_⟩
      rw [cut_at hf' hk' e, nels_split hn] at hw
      simpa using hw
  · omega
theorem found_end {s : List UInt8} {W : List (List UInt8)} {f k : Nat} (h : FoundEls s W f k) (hk : k = s.length + 1) : W = nels s := by
  rcases h with ⟨h, _⟩ | ⟨_, h⟩
  · omega
  · exact h

theorem nels_fold (r : Bool) (l : List UInt8) : (nels l).foldl (cleanStep r) [] = (els l).foldl (cleanStep r) [] := by
  have : ∀ (L st : List (List UInt8)), (L.filter (fun e => !e.isEmpty)).foldl (cleanStep r) st = L.foldl (cleanStep r) st := by
    intro L
    induction L with
    | nil => intro st; rfl
    | cons e L ih =>
      intro st
      cases e with
      | nil => rw [List.filter_cons_of_neg (by simp), List.foldl_cons, ih]; simp [cleanStep]
      | cons c t => rw [List.filter_cons_of_pos (by simp), List.foldl_cons, List.foldl_cons, ih]
  exact this _ _
theorem nels_ne (l : List UInt8) : ∀ e ∈ nels l, e ≠ [] := by
  intro e he
  unfold nels at he
  rw [List.mem_filter] at he
  intro h
  subst h
  simp at he
theorem nels_len (l : List UInt8) : (nels l).length ≤ l.length + 1 := by
  have h1 : (nels l).length ≤ (els l).length := List.length_filter_le _ _
  have h2 : ∀ l : List UInt8, (els l).length ≤ l.length + 1 := by
    intro l
    induction l with
    | nil => simp [els]
    | cons c t ih =>
      unfold els
      split
      · simp; omega
      · cases h : els t with
        | nil => simp
        | cons e r => rw [h] at ih; simp at *; omega
  have := h2 l
  omega

theorem inter_one (e : List UInt8) : inter [e] = e := by simp [inter, List.intercalate]
theorem inter_snoc : ∀ (L : List (List UInt8)) (x : List UInt8), L ≠ [] → inter (L ++ [x]) = inter L ++ 47 :: x
  | [], x, h => absurd rfl h
  | [e], x, _ => by rw [List.singleton_append, inter_cons2, inter_one, inter_one]
  | e :: y :: L, x, _ => by
    have ih := inter_snoc (y :: L) x (by simp)
    simp only [List.cons_append] at ih ⊢
    rw [inter_cons2, inter_cons2, ih]
    simp

/-- The cleaning: what is kept so far (the last one behind), and the elements that are left, give the stack S. -/
def Keeps (r : Bool) (W L : List (List UInt8)) (S : List (List UInt8)) : Prop := L.foldl (cleanStep r) W.reverse = S ∧ (r = true → ∀ x ∈ W, x ≠ [46, 46]) ∧ ∀ x ∈ L, x ≠ []
theorem keeps_start (r : Bool) (l : List UInt8) : Keeps r [] (nels l) ((els l).foldl (cleanStep r) []) := ⟨nels_fold r l, by simp, nels_ne l⟩
theorem keeps_end {r : Bool} {W S : List (List UInt8)} (h : Keeps r W [] S) : W = S.reverse := by
  have := h.1
  simp at this
  rw [← this, List.reverse_reverse]
theorem keeps_dot {r : Bool} {W L S : List (List UInt8)} (h : Keeps r W ([46] :: L) S) : Keeps r W L S := by
  obtain ⟨h1, h2, h3⟩ := h
  refine ⟨?_, h2, fun x hx => h3 x (by simp [hx])⟩
  rw [List.foldl_cons] at h1
  simpa [cleanStep] using h1
theorem keeps_up {r : Bool} {W L S : List (List UInt8)} {x : List UInt8} (h : Keeps r (W ++ [x]) ([46, 46] :: L) S) (hx : x ≠ [46, 46]) : Keeps r W L S := by
  obtain ⟨h1, h2, h3⟩ := h
  refine ⟨?_, fun hr y hy => h2 hr y (by simp [hy]), fun x hx => h3 x (by simp [hx])⟩
  rw [List.foldl_cons] at h1
  simpa [cleanStep, hx] using h1
theorem keeps_top {W L S : List (List UInt8)} (h : Keeps true W ([46, 46] :: L) S) (hW : W = [] ∨ ∃ V, W = V ++ [[46, 46]]) : Keeps true W L S := by
  obtain ⟨h1, h2, h3⟩ := h
  refine ⟨?_, h2, fun x hx => h3 x (by simp [hx])⟩
  rcases hW with rfl | ⟨V, rfl⟩
  · rw [List.foldl_cons] at h1
    simpa [cleanStep] using h1
  · exact absurd rfl (h2 rfl [46, 46] (by simp))
theorem keeps_dots {W L S : List (List UInt8)} (h : Keeps false W ([46, 46] :: L) S) (hW : W = [] ∨ ∃ V, W = V ++ [[46, 46]]) : Keeps false (W ++ [[46, 46]]) L S := by
  obtain ⟨h1, h2, h3⟩ := h
  refine ⟨?_, by simp, fun x hx => h3 x (by simp [hx])⟩
  rcases hW with rfl | ⟨V, rfl⟩ <;> rw [List.foldl_cons] at h1 <;> simpa [cleanStep] using h1
theorem keeps_more {r : Bool} {W L S : List (List UInt8)} {e : List UInt8} (h : Keeps r W (e :: L) S) (h46 : e ≠ [46]) (hup : e ≠ [46, 46]) : Keeps r (W ++ [e]) L S := by
  obtain ⟨h1, h2, h3⟩ := h
  have h0 := h3 e (by simp)
  refine ⟨?_, ?_, fun x hx => h3 x (by simp [hx])⟩
  · rw [List.foldl_cons] at h1
    simpa [cleanStep, h0, h46, hup] using h1
  · intro hr x hx
    rcases List.mem_append.1 hx with hx | hx
    · exact h2 hr x hx
    · simp at hx; subst hx; exact hup

/-- The clean form, out of the stack of what is kept. -/
theorem cleanEls_of (l : List UInt8) (W : List (List UInt8)) (h : W = ((els l).foldl (cleanStep (l.head? == some 47)) []).reverse) (hne : ∀ x ∈ W, x ≠ []) :
    cleanEls l = if (l.head? == some 47) = true then 47 :: inter W else if W = [] then [46] else inter W := by
  subst h
  unfold cleanEls
  by_cases hl : l = []
  · subst hl; simp [els, cleanStep]
  · rw [if_neg hl]
    dsimp only
    split
    · rfl
    · split
      · rename_i h1
        rw [if_pos]
        revert h1 hne
        generalize ((els l).foldl (cleanStep (l.head? == some 47)) []).reverse = W
        intro hne h1
        match W, hne, h1 with
        | [], _, _ => rfl
        | [e], hne, h1 => exact absurd (show e = [] by simpa [inter_one, inter, List.intercalate] using h1) (hne e (by simp))
        | e :: x :: L, _, h1 => exact absurd (show inter (e :: x :: L) = [] from h1) (by rw [inter_cons2]; simp)
      · rename_i h1
        rw [if_neg]
        · rfl
        · intro h2
          apply h1
          rw [h2]; rfl

def tot : List (List UInt8) → Nat
  | [] => 0
  | e :: L => e.length + 1 + tot L
theorem tot_app : ∀ (a b : List (List UInt8)), tot (a ++ b) = tot a + tot b
  | [], b => by simp [tot]
  | e :: a, b => by simp [tot, tot_app a b]; omega
theorem tot_rev : ∀ (a : List (List UInt8)), tot a.reverse = tot a
  | [] => rfl
  | e :: a => by simp [tot, tot_app, tot_rev a]; omega
theorem tot_els : ∀ l : List UInt8, tot (els l) = l.length + 1
  | [] => rfl
  | c :: t => by
    have ih := tot_els t
    unfold els
    split
    · simp [tot, ih]; omega
    · cases h : els t with
      | nil => exact absurd h (els_ne t)
      | cons e r => rw [h] at ih; simp [tot] at *; omega
theorem tot_step (b : Bool) (st : List (List UInt8)) (e : List UInt8) : tot (cleanStep b st e) ≤ tot st + (e.length + 1) := by
  unfold cleanStep
  split
  · omega
  · split
    · cases st with
      | nil => cases b <;> simp [tot] <;> omega
      | cons y r =>
        dsimp only
        split
        · simp [tot] at *; omega
        · simp [tot]; omega
    · simp [tot]; omega
theorem tot_fold (b : Bool) : ∀ (L st : List (List UInt8)), tot (L.foldl (cleanStep b) st) ≤ tot st + tot L
  | [], st => by simp [tot]
  | e :: L, st => by
    have h1 := tot_fold b L (cleanStep b st e)
    have h2 := tot_step b st e
    simp [tot] at *; omega
theorem tot_inter : ∀ (L : List (List UInt8)), (inter L).length ≤ tot L
  | [] => by simp [inter, List.intercalate]
  | [e] => by simp [inter, List.intercalate, tot]
  | e :: x :: L => by
    have := tot_inter (x :: L)
    rw [inter_cons2]
    simp [tot] at *; omega

theorem tot_take (L : List (List UInt8)) (j : Nat) : tot (L.take j) ≤ tot L := by
  have h := tot_app (L.take j) (L.drop j)
  rw [List.take_append_drop] at h
  omega
theorem tot_mem {L : List (List UInt8)} {x : List UInt8} (h : x ∈ L) : x.length ≤ tot L := by
  induction L with
  | nil => simp at h
  | cons e L ih =>
    rcases List.mem_cons.1 h with rfl | h
    · simp [tot]; omega
    · have := ih h; simp [tot]; omega
theorem tot_stack (b : Bool) (l : List UInt8) : tot ((els l).foldl (cleanStep b) []).reverse ≤ l.length + 1 := by
  have h := tot_fold b (els l) []
  rw [tot_els] at h
  rw [tot_rev]
  simp [tot] at h
  exact h
theorem step_ne {b : Bool} {st : List (List UInt8)} {e : List UInt8} (h : ∀ x ∈ st, x ≠ []) : ∀ x ∈ cleanStep b st e, x ≠ [] := by
  unfold cleanStep
  split
  · exact h
  · rename_i h1
    simp only [not_or] at h1
    have he : ∀ x ∈ e :: st, x ≠ [] := by
      intro x hx
      rcases List.mem_cons.1 hx with rfl | hx
      · exact h1.1
      · exact h x hx
    split
    · cases st with
      | nil => cases b <;> simp [h1.1]
      | cons y r =>
        dsimp only
        split
        · exact he
        · exact fun x hx => h x (by simp [hx])
    · exact he
theorem stack_ne (b : Bool) (l : List UInt8) : ∀ x ∈ ((els l).foldl (cleanStep b) []).reverse, x ≠ [] := by
  have : ∀ (L st : List (List UInt8)), (∀ x ∈ st, x ≠ []) → ∀ x ∈ L.foldl (cleanStep b) st, x ≠ [] := by
    intro L
    induction L with
    | nil => intro st h; exact h
    | cons e L ih => intro st h; exact ih _ (step_ne h)
  intro x hx
  exact this (els l) [] (fun y hy => by simp at hy) x (by simpa using hx)
theorem tot_length : ∀ L : List (List UInt8), L.length ≤ tot L
  | [] => Nat.le_refl _
  | e :: L => by
    have := tot_length L
    simp [tot]; omega
theorem inter_take_len (L : List (List UInt8)) (j : Nat) : (inter (L.take j)).length ≤ tot L := Nat.le_trans (tot_inter _) (tot_take L j)
theorem inter_take_one (L : List (List UInt8)) (h : 0 < L.length) : inter (L.take 1) = L[0] := by
  cases L with
  | nil => simp at h
  | cons e L => simp [inter_one]
theorem inter_take_more (L : List (List UInt8)) (j : Nat) (h : j < L.length) (hj : 0 < j) : inter (L.take (j + 1)) = inter (L.take j) ++ 47 :: L[j] := by
  rw [List.take_add_one, List.getElem?_eq_getElem h]
  exact inter_snoc _ _ (by
    intro e
    have := congrArg List.length e
    rw [List.length_take, List.length_nil, Nat.min_eq_left (Nat.le_of_lt h)] at this
    omega)
end Go.Pt
