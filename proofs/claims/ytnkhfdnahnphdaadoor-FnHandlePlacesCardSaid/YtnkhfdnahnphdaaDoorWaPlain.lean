/- FnWritesApart: what two writes within a file leave. -/
namespace Go.Proofs.YtnkhfdnahnphdaaDoor

/-- Bytes laid over others within them. -/
def ov (bs : List Int) (a : Nat) (b : List Int) : List Int := bs.take a ++ b ++ bs.drop (a + b.length)
theorem ov_length {bs : List Int} {a : Nat} {b : List Int} (h : a + b.length ≤ bs.length) : (ov bs a b).length = bs.length := by
  unfold ov; simp; omega
theorem ov_get {bs : List Int} {a : Nat} {b : List Int} (h : a + b.length ≤ bs.length) (i : Nat) : (ov bs a b)[i]? = if a ≤ i ∧ i < a + b.length then b[i - a]? else bs[i]? := by
  unfold ov
  have hl : (bs.take a).length = a := by simp; omega
  by_cases h1 : i < a
  · rw [if_neg (by omega), List.append_assoc, List.getElem?_append_left (by omega), List.getElem?_take_of_lt h1]
  · by_cases h2 : i < a + b.length
    · rw [if_pos ⟨by omega, h2⟩, List.getElem?_append_left (by simp; omega), List.getElem?_append_right (by omega), hl]
    · rw [if_neg (by omega), List.getElem?_append_right (by simp; omega), List.getElem?_drop]
      congr 1
      simp; omega
/-- What was laid last is there. -/
theorem ov_mid {bs : List Int} {a : Nat} {b : List Int} (h : a + b.length ≤ bs.length) : ((ov bs a b).take (a + b.length)).drop a = b := by
  apply List.ext_getElem?
  intro i
  rw [List.getElem?_drop]
  by_cases hi : i < b.length
  · rw [List.getElem?_take_of_lt (by omega), ov_get h, if_pos ⟨by omega, by omega⟩]
    congr 1; omega
  · rw [List.getElem?_eq_none (by simp; omega), List.getElem?_eq_none (by omega)]
/-- Two that don't meet, in either order. -/
theorem ov_comm {bs : List Int} {a k : Nat} {b c : List Int} (h1 : a + b.length ≤ bs.length) (h2 : k + c.length ≤ bs.length) (h : k + c.length ≤ a ∨ a + b.length ≤ k) : ov (ov bs a b) k c = ov (ov bs k c) a b := by
  apply List.ext_getElem?
  intro i
  rw [ov_get (by rw [ov_length h1]; exact h2), ov_get h1, ov_get (by rw [ov_length h2]; exact h1), ov_get h2]
  by_cases g1 : a ≤ i ∧ i < a + b.length
  · rw [if_neg (by omega), if_pos g1, if_pos g1]
  · rw [if_neg g1, if_neg g1]
end Go.Proofs.YtnkhfdnahnphdaaDoor
