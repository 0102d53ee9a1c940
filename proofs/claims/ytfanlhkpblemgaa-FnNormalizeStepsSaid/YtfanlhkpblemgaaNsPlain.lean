/- FnNormalizeSteps: plain facts of the kept names' lengths and of the cuts at their slashes. -/
import Derived.Test.YtfanlhkpblemgaaPa
import Derived.Lib.Hide
namespace Go.Pt
open Go.Lib.Pa

def tot : List (List UInt8) → Nat
  | [] => 0
  | e :: L => e.length + 1 + tot L
theorem tot_app : ∀ (a b : List (List UInt8)), tot (a ++ b) = tot a + tot b
  | [], b => by simp [tot]
  | e :: a, b => by simp [tot, tot_app a b]; omega
theorem tot_rev : ∀ (a : List (List UInt8)), tot a.reverse = tot a
  | [] => rfl
  | e :: a => by simp [tot, tot_app, tot_rev a]; omega
theorem tot_els : ∀ l : List UInt8, tot (els l) = l.length + 1
  | [] => rfl
  | c :: t => by
    have ih := tot_els t
    unfold els
    split
    · simp [tot, ih]; omega
    · cases h : els t with
      | nil => exact absurd h (els_ne t)
      | cons e r => rw [h] at ih; simp [tot] at *; omega
theorem tot_step (st : List (List UInt8)) (e : List UInt8) : tot (cleanStep true st e) ≤ tot st + (e.length + 1) := by
  unfold cleanStep
  split
  · omega
  · split
    · cases st with
      | nil => simp [tot]
      | cons y r =>
        dsimp only
        split
        · simp [tot] at *; omega
        · simp [tot]; omega
    · simp [tot]; omega
theorem tot_fold : ∀ (L st : List (List UInt8)), tot (L.foldl (cleanStep true) st) ≤ tot st + tot L
  | [], st => by simp [tot]
  | e :: L, st => by
    have h1 := tot_fold L (cleanStep true st e)
    have h2 := tot_step st e
    simp [tot] at *; omega
theorem tot_inter : ∀ (L : List (List UInt8)), (inter L).length ≤ tot L
  | [] => by simp [inter, List.intercalate]
  | [e] => by simp [inter, List.intercalate, tot]
  | e :: x :: L => by
    have := tot_inter (x :: L)
    rw [inter_cons2]
    simp [tot] at *; omega
theorem nrm_len (l : List UInt8) : (nrm l).length ≤ l.length + 2 := by
  have h1 := tot_inter (stack l).reverse
  have h2 := tot_fold (els l) []
  rw [tot_rev] at h1
  rw [tot_els] at h2
  simp only [nrm, List.length_cons]
  simp only [stack] at *
  simp [tot] at h2
  omega

/-- What the loop over the kept name has ahead: f begins the element under way, k is the place. -/
def Ahead (r : List UInt8) (f k : Nat) : Prop :=
  (k ≤ r.length ∧ f ≤ k ∧ (∃ L, L ≠ [] ∧ (∀ x ∈ L, Fine x) ∧ r.drop f = inter L) ∧ 47 ∉ (r.drop f).take (k - f)) ∨ k = r.length + 1

theorem ahead_start {r : List UInt8} {l : List UInt8} (h : nrm l = r) (hr : r ≠ [47]) : Ahead r 1 1 := by
  subst h
  refine .inl ⟨by simp [nrm], Nat.le_refl _, ⟨(stack l).reverse, ?_, fun x hx => stack_fine l x (by simpa using hx), by simp [nrm]⟩, by simp⟩
  intro h
  apply hr
  simp [nrm, h, inter, List.intercalate]

theorem take_succ' {r : List UInt8} {f k : Nat} (hf : f ≤ k) (hk : k < r.length) : (r.drop f).take (k + 1 - f) = (r.drop f).take (k - f) ++ [r[k]] := by
  rw [show k + 1 - f = (k - f) + 1 by omega, List.take_add_one]
  congr 1
  rw [List.getElem?_drop, show f + (k - f) = k by omega, List.getElem?_eq_getElem hk]
  rfl

theorem ahead_plain {r : List UInt8} {f k : Nat} (h : Ahead r f k) (hk : k < r.length) (hc : r[k] ≠ 47) : Ahead r f (k + 1) := by
  rcases h with ⟨_, hf, hL, hn⟩ | h
  · refine .inl ⟨hk, by omega, hL, ?_⟩
    rw [take_succ' hf hk]
    simp only [List.mem_append, List.mem_singleton, not_or]
    exact ⟨hn, fun e => hc e.symm⟩
  · omega

theorem split_at {r : List UInt8} {f k : Nat} (hf : f ≤ k) (hk : k < r.length) (hc : r[k] = 47) : r.drop f = (r.drop f).take (k - f) ++ 47 :: r.drop (k + 1) := by
  have h1 := List.take_append_drop (k - f) (r.drop f)
  rw [List.drop_drop, show f + (k - f) = k by omega, List.drop_eq_getElem_cons hk, hc] at h1
  exact h1.symm

theorem ahead_slash {r : List UInt8} {f k : Nat} (h : Ahead r f k) (hk : k < r.length) (hc : r[k] = 47) : Fine ((r.drop f).take (k - f)) ∧ f ≤ k ∧ Ahead r (k + 1) (k + 1) := by
  rcases h with ⟨_, hf, ⟨L, _, hL, hi⟩, hn⟩ | h
  · have hs := split_at hf hk hc
    obtain ⟨M, rfl, hM, hm⟩ := inter_head hL hn (hi.symm.trans hs)
    refine ⟨?_, hf, .inl ⟨hk, Nat.le_refl _, ⟨M, hM, fun x hx => hL x (by simp [hx]), hm.symm⟩, by simp⟩⟩
    exact hL _ (List.mem_cons_self ..)
  · omega

theorem ahead_end {r : List UInt8} {f k : Nat} (h : Ahead r f k) (hk : k = r.length) : Fine ((r.drop f).take (k - f)) ∧ f ≤ k ∧ ∀ f', Ahead r f' (k + 1) := by
  rcases h with ⟨_, hf, ⟨L, hne, hL, hi⟩, hn⟩ | h
  · have e : (r.drop f).take (k - f) = r.drop f := List.take_of_length_le (by simp; omega)
    rw [e] at hn ⊢
    refine ⟨?_, hf, fun f' => .inr (by omega)⟩
    rw [hi] at hn ⊢
    have := inter_last hL hne hn
    have h2 := hL (inter L) (by rw [this]; simp [inter, List.intercalate])
    exact h2
  · omega
end Go.Pt
