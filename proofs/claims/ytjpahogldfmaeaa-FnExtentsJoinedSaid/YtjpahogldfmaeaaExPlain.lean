/- Plain lists for the extents: what the k-th extent is, and rows of cells that are set four at a time. -/
import Derived.Below
namespace Go.Proofs.Ytjpahogldfmaeaa

/-- Where the k-th extent begins in the file; how long it is. -/
def eB (off : Int) (k : Nat) : Int := off + (k : Int) * 32768
def eL (off blocks : Int) (k : Nat) : Int := if 32768 < blocks - eB off k then 32768 else blocks - eB off k

/-- The cells of the first k extents as the writer lays them (four each), and as they are told (three each). -/
def row4 (start off blocks : Int) : Nat → List Value
  | 0 => []
  | k + 1 => row4 start off blocks k ++ [.int .u32 (eB off k), .int .u16 (eL off blocks k), .int .u16 0, .int .u32 (start + eB off k)]
def row3 (start off blocks : Int) : Nat → List Value
  | 0 => []
  | k + 1 => row3 start off blocks k ++ [.int .u32 (eB off k), .int .u16 (eL off blocks k), .int .u32 (start + eB off k)]

theorem row4_len (start off blocks : Int) : ∀ k, (row4 start off blocks k).length = k * 4
  | 0 => rfl
  | k + 1 => by simp [row4, row4_len start off blocks k]; omega
theorem row3_len (start off blocks : Int) : ∀ k, (row3 start off blocks k).length = k * 3
  | 0 => rfl
  | k + 1 => by simp [row3, row3_len start off blocks k]; omega

theorem row4_at (start off blocks : Int) (k : Nat) : ∀ n, k < n → (row4 start off blocks n)[k * 4]? = some (.int .u32 (eB off k)) ∧ (row4 start off blocks n)[k * 4 + 1]? = some (.int .u16 (eL off blocks k)) ∧
    (row4 start off blocks n)[k * 4 + 2]? = some (.int .u16 0) ∧ (row4 start off blocks n)[k * 4 + 3]? = some (.int .u32 (start + eB off k))
  | 0, h => absurd h (by omega)
  | n + 1, h => by
    have hl := row4_len start off blocks n
    by_cases e : k = n
    · subst e
      simp only [row4]
      refine ⟨?_, ?_, ?_, ?_⟩ <;> (rw [List.getElem?_append_right (by omega), hl]; simp [Nat.add_sub_cancel_left])
    · obtain ⟨a, b, c, d⟩ := row4_at start off blocks k n (by omega)
      simp only [row4]
      exact ⟨by rw [List.getElem?_append_left (by omega)]; exact a, by rw [List.getElem?_append_left (by omega)]; exact b, by rw [List.getElem?_append_left (by omega)]; exact c, by rw [List.getElem?_append_left (by omega)]; exact d⟩

theorem row3_at (start off blocks : Int) (k : Nat) : ∀ n, k < n → (row3 start off blocks n)[k * 3]? = some (.int .u32 (eB off k)) ∧ (row3 start off blocks n)[k * 3 + 1]? = some (.int .u16 (eL off blocks k)) ∧
    (row3 start off blocks n)[k * 3 + 2]? = some (.int .u32 (start + eB off k))
  | 0, h => absurd h (by omega)
  | n + 1, h => by
    have hl := row3_len start off blocks n
    by_cases e : k = n
    · subst e
      simp only [row3]
      refine ⟨?_, ?_, ?_⟩ <;> (rw [List.getElem?_append_right (by omega), hl]; simp [Nat.add_sub_cancel_left])
    · obtain ⟨a, b, c⟩ := row3_at start off blocks k n (by omega)
      simp only [row3]
      exact ⟨by rw [List.getElem?_append_left (by omega)]; exact a, by rw [List.getElem?_append_left (by omega)]; exact b, by rw [List.getElem?_append_left (by omega)]; exact c⟩

theorem row4_big {start off blocks : Int} {k : Nat} (h : 32768 < blocks - (off + (k : Int) * 32768)) : row4 start off blocks (k + 1) = row4 start off blocks k ++ [.int .u32 (off + (k : Int) * 32768), .int .u16 32768, .int .u16 0, .int .u32 (start + (off + (k : Int) * 32768))] := by
  have e : eL off blocks k = 32768 := by unfold eL eB; rw [if_pos h]
  simp only [row4, e]
  rfl
theorem row4_small {start off blocks : Int} {k : Nat} (h : blocks - (off + (k : Int) * 32768) ≤ 32768) : row4 start off blocks (k + 1) = row4 start off blocks k ++ [.int .u32 (off + (k : Int) * 32768), .int .u16 (blocks - (off + (k : Int) * 32768)), .int .u16 0, .int .u32 (start + (off + (k : Int) * 32768))] := by
  have e : eL off blocks k = blocks - (off + (k : Int) * 32768) := by unfold eL eB; rw [if_neg (by omega)]
  simp only [row4, e]
  rfl

theorem set4_take {xs : List Value} {k : Nat} (a b c d : Value) (h : k * 4 + 4 ≤ xs.length) :
    ((((xs.set (k * 4) a).set (k * 4 + 1) b).set (k * 4 + 2) c).set (k * 4 + 3) d).take ((k + 1) * 4) = xs.take (k * 4) ++ [a, b, c, d] := by
  apply List.ext_getElem?
  intro i
  by_cases h1 : i < k * 4
  · rw [List.getElem?_append_left (by simp; omega), List.getElem?_take_of_lt (by omega), List.getElem?_take_of_lt h1]
    rw [List.getElem?_set_ne (by omega), List.getElem?_set_ne (by omega), List.getElem?_set_ne (by omega), List.getElem?_set_ne (by omega)]
  · rw [List.getElem?_append_right (by simp; omega)]
    have hl : (xs.take (k * 4)).length = k * 4 := by simp; omega
    rw [hl]
    by_cases h2 : i < (k + 1) * 4
    · rw [List.getElem?_take_of_lt h2]
      obtain ⟨j, rfl⟩ : ∃ j, i = k * 4 + j := ⟨i - k * 4, by omega⟩
      rw [Nat.add_sub_cancel_left]
      match j, h2 with
      | 0, _ => simp [List.getElem?_set]; omega
      | 1, _ => simp [List.getElem?_set]; omega
      | 2, _ => simp [List.getElem?_set]; omega
      | 3, _ => simp [List.getElem?_set]; omega
      | j + 4, h2 => omega
    · rw [List.getElem?_eq_none (by simp; omega), List.getElem?_eq_none (by simp; omega)]

/-- How many extents cover from off to blocks. -/
theorem eN_bounds {off blocks n : Int} (h1 : off < blocks) (hn : n = (blocks - off + 32767) / 32768) : 1 ≤ n ∧ off + (n - 1) * 32768 < blocks ∧ blocks ≤ off + n * 32768 := by omega

theorem eB_lt {off blocks : Int} {k n : Nat} (hk : k < n) (h : off + ((n : Int) - 1) * 32768 < blocks) : eB off k < blocks := by unfold eB; omega
theorem eB_nn {off : Int} {k : Nat} (h : 0 ≤ off) : 0 ≤ eB off k := by unfold eB; omega
theorem eL_bd {off blocks : Int} {k : Nat} (h : eB off k < blocks) : 1 ≤ eL off blocks k ∧ eL off blocks k ≤ 32768 ∧ eL off blocks k ≤ blocks - eB off k := by unfold eL; split <;> omega
/-- The next one begins where this one ends; behind the last one there is nothing. -/
theorem eB_next {off blocks : Int} {k n : Nat} (hk : k + 1 < n) (h : off + ((n : Int) - 1) * 32768 < blocks) : eB off k + eL off blocks k = eB off (k + 1) := by
  unfold eL eB; rw [if_pos (by omega)]; omega
theorem eB_last {off blocks : Int} {k n : Nat} (hk : k + 1 = n) (h2 : blocks ≤ off + (n : Int) * 32768) : eB off k + eL off blocks k = blocks := by
  unfold eL eB; split <;> omega

end Go.Proofs.Ytjpahogldfmaeaa
