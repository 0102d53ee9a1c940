/- FnHandlePlaces: what was laid and cut, and the file that it comes to. -/
import Derived.Test.YtnkhfdnahnphdaaDoorWlWalk
namespace Go.Proofs.YtnkhfdnahnphdaaDoor
set_option linter.unusedVariables false

/-- Bytes laid at a place, or a cut there. -/
structure Lain where
  at_ : Nat
  b : List Int
  cut : Bool
/-- The byte at a place, the last deed first. -/
def byteR : List Lain → Nat → Int
  | [], _ => 0
  | x :: r, p => if x.cut = true ∧ x.at_ ≤ p then 0 else if x.cut = false ∧ x.at_ ≤ p ∧ p < x.at_ + x.b.length then x.b.getD (p - x.at_) 0 else byteR r p
def byteAtP (l : List Lain) (p : Nat) : Int := byteR l.reverse p
def lenStep (n : Nat) (x : Lain) : Nat := if x.cut = true then x.at_ else max n (x.at_ + x.b.length)
def lenOfL (l : List Lain) : Nat := l.foldl lenStep 0
def fileOf (l : List Lain) : List Int := (List.range (lenOfL l)).map (byteAtP l)

theorem lenOf_snoc (l : List Lain) (x : Lain) : lenOfL (l ++ [x]) = lenStep (lenOfL l) x := by unfold lenOfL; rw [List.foldl_append]; rfl
theorem byteAt_snoc (l : List Lain) (x : Lain) (p : Nat) : byteAtP (l ++ [x]) p = if x.cut = true ∧ x.at_ ≤ p then 0 else if x.cut = false ∧ x.at_ ≤ p ∧ p < x.at_ + x.b.length then x.b.getD (p - x.at_) 0 else byteAtP l p := by
  unfold byteAtP; rw [List.reverse_append]; rfl
theorem fileOf_length (l : List Lain) : (fileOf l).length = lenOfL l := by simp [fileOf]
theorem snoc_ind {P : List Lain → Prop} (h0 : P []) (h1 : ∀ l x, P l → P (l ++ [x])) (l : List Lain) : P l := by
  have : ∀ n (l : List Lain), l.length = n → P l := by
    intro n
    induction n with
    | zero => intro l hl; rw [List.eq_nil_of_length_eq_zero hl]; exact h0
    | succ n ih =>
      intro l hl
      have hne : l ≠ [] := by intro e; subst e; simp at hl
      have := List.dropLast_concat_getLast hne
      rw [← this]
      exact h1 _ _ (ih _ (by simp [hl]))
  exact this _ l rfl
theorem byte_beyond (l : List Lain) : ∀ p, lenOfL l ≤ p → byteAtP l p = 0 := by
  refine snoc_ind (P := fun l => ∀ p, lenOfL l ≤ p → byteAtP l p = 0) (fun p _ => rfl) (fun l x ih p hp => ?_) l
  rw [lenOf_snoc] at hp
  rw [byteAt_snoc]
  unfold lenStep at hp
  cases hc : x.cut with
  | true =>
    rw [hc, if_pos rfl] at hp
    rw [if_pos ⟨rfl, hp⟩]
  | false =>
    rw [hc, if_neg (by simp)] at hp
    rw [if_neg (by simp), if_neg (by omega)]
    exact ih p (by omega)
theorem file_getD (l : List Lain) (p : Nat) : (fileOf l).getD p 0 = byteAtP l p := by
  by_cases h : p < lenOfL l
  · simp [fileOf, List.getD_eq_getElem?_getD, List.getElem?_map, List.getElem?_range h]
  · rw [byte_beyond l p (by omega), List.getD_eq_getElem?_getD, List.getElem?_eq_none (by rw [fileOf_length]; omega)]
    rfl
theorem ext_getD {l m : List Int} (h1 : l.length = m.length) (h2 : ∀ p, p < l.length → l.getD p 0 = m.getD p 0) : l = m := by
  apply List.ext_getElem h1
  intro i hi hj
  have := h2 i hi
  simpa [List.getD_eq_getElem?_getD, List.getElem?_eq_getElem hi, List.getElem?_eq_getElem hj] using this
theorem getD_app (l m : List Int) (p : Nat) : (l ++ m).getD p 0 = if p < l.length then l.getD p 0 else m.getD (p - l.length) 0 := by
  simp only [List.getD_eq_getElem?_getD, List.getElem?_append]
  split <;> rfl
theorem getD_take (l : List Int) (n p : Nat) : (l.take n).getD p 0 = if p < n then l.getD p 0 else 0 := by
  simp only [List.getD_eq_getElem?_getD, List.getElem?_take]
  split <;> rfl
theorem getD_drop (l : List Int) (n p : Nat) : (l.drop n).getD p 0 = l.getD (n + p) 0 := by
  simp only [List.getD_eq_getElem?_getD, List.getElem?_drop]
theorem getD_zeros (n p : Nat) : (List.replicate n (0 : Int)).getD p 0 = 0 := by
  simp only [List.getD_eq_getElem?_getD, List.getElem?_replicate]
  split <;> rfl
theorem getD_none (l : List Int) (p : Nat) (h : l.length ≤ p) : l.getD p 0 = 0 := by
  rw [List.getD_eq_getElem?_getD, List.getElem?_eq_none h]; rfl

theorem fileOf_lay (l : List Lain) (a : Nat) (b : List Int) : fileOf (l ++ [⟨a, b, false⟩]) = lay (fileOf l) a b := by
  have hL : lenOfL (l ++ [⟨a, b, false⟩]) = max (lenOfL l) (a + b.length) := by rw [lenOf_snoc]; simp [lenStep]
  apply ext_getD
  · rw [fileOf_length, hL, lay_length, fileOf_length]
  · intro p hp
    rw [file_getD, byteAt_snoc]
    rw [if_neg (by simp)]
    unfold lay sized
    rw [getD_app, getD_app, getD_app, getD_take, getD_zeros, getD_drop]
    simp only [List.length_append, List.length_take, List.length_replicate, fileOf_length, file_getD]
    rw [fileOf_length, hL] at hp
    have e1 : min a (lenOfL l) + (a - lenOfL l) = a := by omega
    rw [e1]
    by_cases h1 : a ≤ p ∧ p < a + b.length
    · rw [if_pos ⟨trivial, h1⟩, if_pos h1.2, if_neg (by omega)]
    · rw [if_neg (by simp; omega)]
      by_cases h2 : p < a
      · rw [if_pos (by omega), if_pos h2]
        by_cases h3 : p < lenOfL l
        · rw [if_pos (by omega), if_pos h2]
        · rw [if_neg (by omega), byte_beyond l p (by omega)]
      · rw [if_neg (by omega)]
        congr 1
        omega
theorem fileOf_cut (l : List Lain) (s : Nat) (b : List Int) : fileOf (l ++ [⟨s, b, true⟩]) = cutTo (fileOf l) s := by
  have hL : lenOfL (l ++ [⟨s, b, true⟩]) = s := by rw [lenOf_snoc]; simp [lenStep]
  apply ext_getD
  · rw [fileOf_length, hL]
    unfold cutTo
    simp [fileOf_length]
    omega
  · intro p hp
    rw [fileOf_length, hL] at hp
    rw [file_getD, byteAt_snoc, if_neg (by simp; omega), if_neg (by simp)]
    unfold cutTo
    rw [getD_app, getD_take, getD_zeros]
    simp only [List.length_take, fileOf_length, file_getD]
    by_cases h3 : p < lenOfL l
    · rw [if_pos (by omega), if_pos hp]
    · rw [if_neg (by omega), byte_beyond l p (by omega)]
theorem fileOf_one (data : List Int) : fileOf [⟨0, data, false⟩] = data := by
  have h := fileOf_lay [] 0 data
  rw [List.nil_append] at h
  rw [h]
  unfold lay sized fileOf lenOfL
  simp
/-- The loop that the law reads by. -/
theorem due_eq (l : List Lain) (a n : Nat) : (List.range (min n (lenOfL l - a))).map (fun i => byteAtP l (a + i)) = ((fileOf l).drop a).take n := by
  apply ext_getD
  · simp [fileOf_length]
  · intro p hp
    simp at hp
    rw [getD_take, getD_drop, if_pos (by omega), file_getD]
    simp [List.getD_eq_getElem?_getD, List.getElem?_map, List.getElem?_range (show p < min n (lenOfL l - a) by omega)]
end Go.Proofs.YtnkhfdnahnphdaaDoor
