/- The prefixes of attributes' names: which one a name begins with, and back. -/
import Derived.Lib.Strings
import Derived.Lib.IndexBytes
import Derived.Laws.Strings
import Derived.WideShapes
namespace Go.Proofs.YtjpahogldfmaeabDoor

/-- The prefixes with their indexes, in the order in which they are asked. -/
def prefs : List (Int × List UInt8) := [
  (2, [115, 121, 115, 116, 101, 109, 46, 112, 111, 115, 105, 120, 95, 97, 99, 108, 95, 97, 99, 99, 101, 115, 115]),
  (3, [115, 121, 115, 116, 101, 109, 46, 112, 111, 115, 105, 120, 95, 97, 99, 108, 95, 100, 101, 102, 97, 117, 108, 116]),
  (8, [115, 121, 115, 116, 101, 109, 46, 114, 105, 99, 104, 97, 99, 108]),
  (7, [115, 121, 115, 116, 101, 109, 46]),
  (1, [117, 115, 101, 114, 46]),
  (4, [116, 114, 117, 115, 116, 101, 100, 46]),
  (6, [115, 101, 99, 117, 114, 105, 116, 121, 46])]

def strB (l : List UInt8) : ByteArray := ⟨l.toArray⟩

/-- Whether s begins with p, as the code asks it. -/
def hasP (s p : ByteArray) : Bool := decide (p.size ≤ s.size) && ((s.extract 0 p.size).toList == p.toList)

/-- The first prefix of l that s begins with, and the rest; 0 and s if there is none. -/
def pick (s : ByteArray) : List (Int × List UInt8) → Int × ByteArray
  | [] => (0, s)
  | (i, p) :: r => if hasP s (strB p) then (i, s.extract (strB p).size s.size) else pick s r

/-- The name put together again. -/
def unpick (i : Int) (rest : ByteArray) : List (Int × List UInt8) → ByteArray
  | [] => rest
  | (j, p) :: r => if i = j then strB p ++ rest else unpick i rest r

theorem hasP_cut {s p : ByteArray} (h : hasP s p = true) : p ++ s.extract p.size s.size = s := by
  simp only [hasP, Bool.and_eq_true, decide_eq_true_eq, beq_iff_eq] at h
  obtain ⟨h1, h2⟩ := h
  rw [ByteArray.toList_eq, ByteArray.toList_eq, Lib.extract_data] at h2
  simp only [List.drop_zero, Nat.sub_zero] at h2
  apply WideShapes.bytes_inj
  have e : (p ++ s.extract p.size s.size).data.toList = p.data.toList ++ (s.extract p.size s.size).data.toList := by
    simp
  rw [e, Lib.extract_to_end, ← h2]
  have : p.size = (List.take p.size s.data.toList).length := by simp; omega
  conv => lhs; rhs; rw [this]
  rw [← this, List.take_append_drop]

theorem pick_mem (s : ByteArray) : ∀ l : List (Int × List UInt8), (pick s l).1 = 0 ∨ (pick s l).1 ∈ l.map (·.1)
  | [] => .inl rfl
  | (i, p) :: r => by
    unfold pick
    split
    · exact .inr (by simp)
    · exact (pick_mem s r).imp id fun h => by simp only [List.map_cons, List.mem_cons]; exact .inr h

theorem pick_unpick (s : ByteArray) : ∀ l : List (Int × List UInt8), (l.map (·.1)).Nodup → 0 ∉ l.map (·.1) → unpick (pick s l).1 (pick s l).2 l = s
  | [], _, _ => rfl
  | (i, p) :: r, hn, h0 => by
    simp only [List.map_cons, List.nodup_cons, List.mem_cons, not_or] at hn h0
    unfold pick
    split
    · rename_i h
      show unpick i _ ((i, p) :: r) = s
      rw [unpick, if_pos rfl]
      exact hasP_cut h
    · have hne : (pick s r).1 ≠ i := by
        intro e
        rcases pick_mem s r with h | h
        · exact h0.1 (h.symm.trans e)
        · rw [e] at h; exact hn.1 h
      rw [unpick, if_neg hne]
      exact pick_unpick s r hn.2 h0.2

theorem pick_back (s : ByteArray) : unpick (pick s prefs).1 (pick s prefs).2 prefs = s := pick_unpick s prefs (by decide) (by decide)

theorem pick_range (s : ByteArray) : 0 ≤ (pick s prefs).1 ∧ (pick s prefs).1 ≤ 8 := by
  rcases pick_mem s prefs with h | h
  · omega
  · have : ∀ x ∈ prefs.map (·.1), 0 ≤ x ∧ x ≤ 8 := by decide
    exact this _ h

theorem pick_size' (s : ByteArray) : ∀ l : List (Int × List UInt8), (pick s l).2.size ≤ s.size
  | [] => Nat.le_refl _
  | (i, p) :: r => by
    unfold pick
    split
    · simp only [ByteArray.size_extract]; omega
    · exact pick_size' s r
theorem pick_size (s : ByteArray) : (pick s prefs).2.size ≤ s.size := pick_size' s prefs

theorem pick_rest (s : ByteArray) (h : (pick s prefs).1 = 0) : (pick s prefs).2 = s := by
  have := pick_back s
  rw [h] at this
  exact this

end Go.Proofs.YtjpahogldfmaeabDoor
