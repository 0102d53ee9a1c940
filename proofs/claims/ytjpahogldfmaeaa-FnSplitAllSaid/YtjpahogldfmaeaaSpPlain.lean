/- Plain lists for FnSplitAll: what stands between the slashes of a path, and the cut at the first slash. -/
import Derived.Lib.Bytealg
import Derived.Lib.Strings
namespace Go.Proofs.Ytjpahogldfmaeaa

/-- What stands between the slashes. -/
def segs : List UInt8 → List (List UInt8)
  | [] => [[]]
  | c :: t => if c = 47 then [] :: segs t else (match segs t with
    | x :: xs => (c :: x) :: xs
    | [] => [[c]])

theorem segs_ne : ∀ l : List UInt8, segs l ≠ []
  | [] => by simp [segs]
  | c :: t => by
    unfold segs
    split
    · simp
    · cases h : segs t with
      | nil => simp
      | cons x xs => simp

theorem segs_clean : ∀ l : List UInt8, (∀ x ∈ l, x ≠ 47) → segs l = [l]
  | [] => fun _ => rfl
  | c :: t => fun h => by
    unfold segs
    rw [if_neg (h c (by simp)), segs_clean t (fun x hx => h x (by simp [hx]))]

theorem segs_cut : ∀ (a b : List UInt8), (∀ x ∈ a, x ≠ 47) → segs (a ++ 47 :: b) = a :: segs b
  | [], b => fun _ => by simp [segs]
  | c :: a, b => fun h => by
    show segs (c :: (a ++ 47 :: b)) = _
    rw [segs, if_neg (h c (by simp)), segs_cut a b (fun x hx => h x (by simp [hx]))]

theorem indexByte_cases (c : UInt8) : ∀ l : List UInt8, (Lib.indexByte l c = -1 ∧ ∀ x ∈ l, x ≠ c) ∨ ∃ a b, l = a ++ c :: b ∧ (∀ x ∈ a, x ≠ c) ∧ Lib.indexByte l c = (a.length : Int)
  | [] => .inl ⟨rfl, by simp⟩
  | x :: l => by
    unfold Lib.indexByte
    by_cases h : x = c
    · subst h
      exact .inr ⟨[], l, rfl, by simp, by simp⟩
    · rcases indexByte_cases c l with ⟨h1, h2⟩ | ⟨a, b, h1, h2, h3⟩
      · refine .inl ⟨by simp [h, h1], fun y hy => ?_⟩
        rcases List.mem_cons.1 hy with rfl | hy
        · exact h
        · exact h2 y hy
      · refine .inr ⟨x :: a, b, by simp [h1], fun y hy => ?_, ?_⟩
        · rcases List.mem_cons.1 hy with rfl | hy
          · exact h
          · exact h2 y hy
        · have h4 : ¬ ((a.length : Int) = -1) := by omega
          simp [h, h3, h4]

/-- The cut at the first slash. -/
def cutA (l : List UInt8) : List UInt8 := (segs l).head (segs_ne l)
def cutB (l : List UInt8) : List UInt8 := if Lib.indexByte l 47 = -1 then [] else l.drop ((cutA l).length + 1)

theorem cut_no {l : List UInt8} (h : Lib.indexByte l 47 = -1) : cutA l = l ∧ cutB l = [] ∧ segs l = [l] := by
  rcases indexByte_cases 47 l with ⟨_, h2⟩ | ⟨a, b, h1, _, h3⟩
  · refine ⟨?_, by simp [cutB, h], segs_clean l h2⟩
    simp [cutA, segs_clean l h2]
  · omega

theorem cut_yes {l : List UInt8} {n : Nat} (h : Lib.indexByte l 47 = (n : Int)) : cutA l = l.take n ∧ cutB l = l.drop (n + 1) ∧ n < l.length ∧ segs l = l.take n :: segs (l.drop (n + 1)) := by
  rcases indexByte_cases 47 l with ⟨h1, _⟩ | ⟨a, b, h1, h2, h3⟩
  · omega
  · obtain rfl : n = a.length := by omega
    have e : segs l = a :: segs b := by rw [h1]; exact segs_cut a b h2
    have ea : cutA l = a := by simp [cutA, e]
    have et : l.take a.length = a := by simp [h1]
    have ed : l.drop (a.length + 1) = b := by
      rw [h1, ← List.drop_drop]; simp
    refine ⟨by rw [ea, et], ?_, by simp [h1], by rw [et, ed, e]⟩
    unfold cutB
    rw [if_neg (by omega), ea]

theorem segs_eq (l : List UInt8) : segs l = cutA l :: (if Lib.indexByte l 47 = -1 then [] else segs (cutB l)) := by
  by_cases h : Lib.indexByte l 47 = -1
  · rw [if_pos h]
    obtain ⟨h1, _, h3⟩ := cut_no h
    rw [h1, h3]
  · rw [if_neg h]
    obtain ⟨n, hn⟩ : ∃ n : Nat, Lib.indexByte l 47 = (n : Int) := by
      have := Lib.indexByte_ge l 47
      exact ⟨(Lib.indexByte l 47).toNat, by omega⟩
    obtain ⟨h1, h2, _, h4⟩ := cut_yes hn
    rw [h1, h2, ← h4]

theorem cut_len {l : List UInt8} (h : Lib.indexByte l 47 ≠ -1) : (cutB l).length + (cutA l).length + 1 = l.length := by
  obtain ⟨n, hn⟩ : ∃ n : Nat, Lib.indexByte l 47 = (n : Int) := by
    have := Lib.indexByte_ge l 47
    exact ⟨(Lib.indexByte l 47).toNat, by omega⟩
  obtain ⟨h1, h2, h3, _⟩ := cut_yes hn
  rw [h1, h2]
  simp
  omega

/-- One step of the gathering: from f to k there is no slash, at k there is one. -/
theorem segs_step {l : List UInt8} {f k : Nat} (hf : f ≤ k) (hk : k < l.length) (hc : ∀ x ∈ (l.drop f).take (k - f), x ≠ 47) (h : l[k] = 47) :
    segs (l.drop f) = (l.drop f).take (k - f) :: segs (l.drop (k + 1)) := by
  have e : l.drop f = (l.drop f).take (k - f) ++ 47 :: l.drop (k + 1) := by
    conv => lhs; rw [← List.take_append_drop (k - f) (l.drop f)]
    congr 1
    rw [List.drop_drop, show f + (k - f) = k by omega, List.drop_eq_getElem_cons hk, h]
  conv => lhs; rw [e]
  exact segs_cut _ _ hc

theorem clean_step {l : List UInt8} {f k : Nat} (hf : f ≤ k) (hk : k < l.length) (hc : ∀ x ∈ (l.drop f).take (k - f), x ≠ 47) (h : l[k] ≠ 47) :
    ∀ x ∈ (l.drop f).take (k + 1 - f), x ≠ 47 := by
  intro x hx
  have e : (l.drop f).take (k + 1 - f) = (l.drop f).take (k - f) ++ [l[k]] := by
    rw [show k + 1 - f = (k - f) + 1 by omega, List.take_succ_eq_append_getElem (by simp; omega)]
    simp [show f + (k - f) = k by omega]
  rw [e] at hx
  rcases List.mem_append.1 hx with hx | hx
  · exact hc x hx
  · simp at hx; rw [hx]; exact h

theorem segs_last {l : List UInt8} {f : Nat} (hc : ∀ x ∈ (l.drop f).take (l.length - f), x ≠ 47) : segs (l.drop f) = [(l.drop f).take (l.length - f)] := by
  have e : (l.drop f).take (l.length - f) = l.drop f := List.take_of_length_le (by simp)
  rw [e] at hc ⊢
  exact segs_clean _ hc

end Go.Proofs.Ytjpahogldfmaeaa
