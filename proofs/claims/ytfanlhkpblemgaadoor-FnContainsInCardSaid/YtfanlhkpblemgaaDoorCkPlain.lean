/- Where a list lies in another one, and what a window over it shows. -/
import Derived.Laws.CopyOwn
import Derived.Laws.BytesArg
namespace Go.Proofs.YtfanlhkpblemgaaDoor
open Go

/-- A list lies at a place of another one. -/
def OccAt {α : Type} (D s : List α) (i : Nat) : Prop := i + s.length ≤ D.length ∧ (D.drop i).take s.length = s
def Occ {α : Type} (D s : List α) : Prop := ∃ i, OccAt D s i
/-- No list of some, but empty ones, ends in the first q. -/
def NoOcc {α : Type} (D : List α) (L : List (List α)) (q : Nat) : Prop := ∀ s ∈ L, s ≠ [] → ∀ i, i + s.length ≤ q → ¬ OccAt D s i
/-- The window of x from p on stands at the head of a buffer. -/
theorem occ_window {α : Type} {D B s : List α} {p x i : Nat} (hw : B.take x = (D.drop p).take x) (hx : p + x ≤ D.length) (hp : p ≤ i) (hi : i + s.length ≤ p + x) (h : OccAt D s i) : Occ B s := by
  have hl : (B.take x).length = x := by rw [hw]; simp; omega
  have hBl : x ≤ B.length := by simp at hl; omega
  refine ⟨i - p, by omega, ?_⟩
  obtain ⟨_, h⟩ := h
  have e1 : (B.drop (i - p)).take s.length = ((B.take x).drop (i - p)).take s.length := by
    rw [List.drop_take, List.take_take, Nat.min_eq_left (by omega)]
  rw [e1, hw, List.drop_take, List.drop_drop, List.take_take, Nat.min_eq_left (by omega), show p + (i - p) = i by omega]
  exact h
theorem noOcc_step {α : Type} {D B : List α} {L : List (List α)} {q p x b : Nat} (hN : NoOcc D L q) (hb : ∀ s ∈ L, s.length ≤ b) (hpq : p + b ≤ q + 1 ∨ p = 0) (hw : B.take x = (D.drop p).take x) (hx : p + x ≤ D.length) (hno : ∀ s ∈ L, ¬ Occ B s) : NoOcc D L (p + x) := by
  intro s hs hne i hi ho
  by_cases h : i + s.length ≤ q
  · exact hN s hs hne i h ho
  · have := hb s hs
    exact hno s hs (occ_window hw hx (by rcases hpq with h | h <;> omega) hi ho)
theorem noOcc_start {α : Type} (D : List α) (L : List (List α)) : NoOcc D L 0 := by
  intro s _ hne i hi _
  have : s.length = 0 := by omega
  exact hne (List.eq_nil_of_length_eq_zero this)
theorem noOcc_end {α : Type} {D : List α} {L : List (List α)} (h : NoOcc D L D.length) : ∀ s ∈ L, s ≠ [] → ¬ Occ D s := fun s hs hne ⟨i, ho⟩ => h s hs hne i ho.1 ho
theorem splice_map {α β : Type} (f : α → β) (B c : List α) (o : Nat) : splice (B.map f) o (c.map f) = (splice B o c).map f := by
  unfold splice; simp
theorem splice_len {α : Type} {B c : List α} {o : Nat} (h : o + c.length ≤ B.length) : (splice B o c).length = B.length := by
  unfold splice; simp; omega
/-- What was read to the head. -/
theorem splice_head {α : Type} {B D : List α} {n : Nat} (hn : n ≤ D.length) : (splice B 0 (D.take n)).take n = (D.drop 0).take n := by
  unfold splice
  simp
  rw [List.take_append_of_le_length (by simp; omega), List.take_take, Nat.min_self]
theorem splice_head' {α : Type} {B D : List α} {n : Nat} (hn : n ≤ D.length) : (splice B 0 ((D.drop 0).take n)).take n = (D.drop 0).take n := by
  have h := splice_head (B := B) hn
  rwa [List.drop_zero] at h ⊢
/-- What was read behind what stands there. -/
theorem splice_next {α : Type} {B D : List α} {p h n : Nat} (hB : B.take h = (D.drop p).take h) (hn : p + h + n ≤ D.length) : (splice B h ((D.drop (p + h)).take n)).take (h + n) = (D.drop p).take (h + n) := by
  have hl : (B.take h).length = h := by rw [hB]; simp; omega
  unfold splice
  rw [List.take_append, hl, Nat.add_sub_cancel_left, List.take_of_length_le (by rw [hl]; omega), List.take_append_of_le_length (by simp; omega), List.take_take, Nat.min_self, hB, List.take_add, List.drop_drop]
/-- Behind a round the second half is what was read last. -/
theorem splice_back {α : Type} {B : List α} {h : Nat} (c : List α) (hc : c.length = h) (hB : B.length = 2 * h) : (splice B h c).drop h = c := by
  have hl : (B.take h).length = h := by simp; omega
  unfold splice
  rw [List.drop_append, hl, Nat.sub_self, List.drop_zero, List.drop_of_length_le (by omega), List.nil_append, List.drop_of_length_le (by omega), List.append_nil]
/-- The second half is laid over the first one. -/
theorem splice_shift {α : Type} {B : List α} {h : Nat} (hB : B.length = 2 * h) : (splice B 0 (B.drop h)).take h = B.drop h := by
  unfold splice
  have : (B.drop h).length = h := by simp; omega
  simp
  rw [List.take_append_of_le_length (by omega), List.take_of_length_le (by omega)]
/-- A byte as it stands in a string. -/
abbrev toU (n : Int) : UInt8 := UInt8.ofNat n.toNat
theorem take_map_eq {α β : Type} {f : α → β} {B D : List α} {x p : Nat} (h : B.take x = (D.drop p).take x) : (B.map f).take x = ((D.map f).drop p).take x := by
  rw [← List.map_take, h, List.map_take, List.map_drop]
end Go.Proofs.YtfanlhkpblemgaaDoor
