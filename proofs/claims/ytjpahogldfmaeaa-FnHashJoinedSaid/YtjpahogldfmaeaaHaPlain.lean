/- Plain lists for FnHashJoined: four bytes as a number, the hash's steps, and the hash of a value as a fold over its words. -/
import Derived.Laws.Entries
import Derived.Laws.Closers25b
import Derived.Lib.QuoteBits
import Derived.Laws.CopyOwn
namespace Go.Proofs.Ytjpahogldfmaeaa

def w32 (a b c d : Int) : Int := bits .or .u32 (bits .or .u32 (bits .or .u32 a (b * 256)) (c * 65536)) (d * 16777216)
def hName (h c : Int) : Int := bits .xor .u32 (bits .xor .u32 (h * 32 % 4294967296) (h / 134217728)) (c % 4294967296)
def hWord (h x : Int) : Int := bits .xor .u32 (bits .xor .u32 (h * 65536 % 4294967296) (h / 65536)) x

/-- The words of a value: four bytes each, zeros behind the last ones. -/
def words : List Int → List Int
  | a :: b :: c :: d :: r => w32 a b c d :: words r
  | [a, b, c] => [w32 a b c 0]
  | [a, b] => [w32 a b 0 0]
  | [a] => [w32 a 0 0 0]
  | [] => []

def hashOf (name : List UInt8) (value : List Int) : Int := (words value).foldl hWord ((name.map fun c => (c.toNat : Int)).foldl hName 0)

theorem hName_bd (h c : Int) : 0 ≤ hName h c ∧ hName h c ≤ 4294967295 := ⟨bits_lo_u32 _ _ _, bits_hi_u32 _ _ _⟩
theorem hWord_bd (h c : Int) : 0 ≤ hWord h c ∧ hWord h c ≤ 4294967295 := ⟨bits_lo_u32 _ _ _, bits_hi_u32 _ _ _⟩

theorem name_bd : ∀ (l : List Int) (h : Int), 0 ≤ h ∧ h ≤ 4294967295 → 0 ≤ l.foldl hName h ∧ l.foldl hName h ≤ 4294967295
  | [], _, hb => hb
  | c :: l, h, _ => name_bd l _ (hName_bd h c)
theorem word_bd : ∀ (l : List Int) (h : Int), 0 ≤ h ∧ h ≤ 4294967295 → 0 ≤ l.foldl hWord h ∧ l.foldl hWord h ≤ 4294967295
  | [], _, hb => hb
  | c :: l, h, _ => word_bd l _ (hWord_bd h c)

theorem words_four (l : List Int) (h : 4 ≤ l.length) : words l = w32 l[0] l[1] l[2] l[3] :: words (l.drop 4) := by
  match l, h with
  | a :: b :: c :: d :: r, _ => simp [words]

/-- The words of a value put together of two, the first of a multiple of four bytes. -/
theorem words_append : ∀ (n : Nat) (a b : List Int), a.length = n * 4 → words (a ++ b) = words a ++ words b
  | 0, a, b, h => by
    obtain rfl := List.eq_nil_of_length_eq_zero (by omega : a.length = 0)
    simp [words]
  | n + 1, a, b, h => by
    match a, h with
    | x :: y :: z :: t :: r, h =>
      simp only [List.cons_append, words]
      rw [words_append n r b (by simp at h; omega)]
    | [x, y, z], h => simp at h; omega
    | [x, y], h => simp at h; omega
    | [x], h => simp at h; omega
    | [], h => simp at h

theorem andNot_three (i : Nat) (h : i < 9223372036854775807) : bits .andNot .i64 (i : Int) 3 = ((i / 4 * 4 : Nat) : Int) := by
  show IntKind.i64.wrap ((BitVec.ofInt 64 (i : Int) &&& ~~~BitVec.ofInt 64 ((3 : Nat) : Int)).toNat : Int) = _
  rw [BitVec.toNat_and, BitVec.toNat_not, ofInt_u64 i (by omega), ofInt_u64 3 (by omega)]
  have e : 2 ^ 64 - 1 - 3 = 18446744073709551612 := by decide
  rw [e, nat_hi64_2, Nat.mod_eq_of_lt (by omega)]
  exact Lib.wrap_i64_small _ (by omega)

theorem words_short {r : List Int} (h1 : 1 ≤ r.length) (h3 : r.length ≤ 3) : words r = [w32 (r.getD 0 0) (r.getD 1 0) (r.getD 2 0) (r.getD 3 0)] := by
  match r, h1, h3 with
  | [a], _, _ => rfl
  | [a, b], _, _ => rfl
  | [a, b, c], _, _ => rfl
  | a :: b :: c :: d :: r, _, h => simp at h

theorem last_row {r : List Int} (h3 : r.length ≤ 3) (i : Nat) (hi : i < 4) : (splice #[Value.int .u8 0, .int .u8 0, .int .u8 0, .int .u8 0].toList 0 (r.map (Value.int .u8))).toArray[i]? = some (.int .u8 (r.getD i 0)) := by
  match r, h3, i, hi with
  | [], _, 0, _ | [], _, 1, _ | [], _, 2, _ | [], _, 3, _ => rfl
  | [a], _, 0, _ | [a], _, 1, _ | [a], _, 2, _ | [a], _, 3, _ => rfl
  | [a, b], _, 0, _ | [a, b], _, 1, _ | [a, b], _, 2, _ | [a, b], _, 3, _ => rfl
  | [a, b, c], _, 0, _ | [a, b, c], _, 1, _ | [a, b, c], _, 2, _ | [a, b, c], _, 3, _ => rfl
  | a :: b :: c :: d :: r, h, _, _ => simp at h
  | _, _, n + 4, h => omega

theorem getD_fits {r : List Int} (h : ∀ c ∈ r, 0 ≤ c ∧ c ≤ 255) (i : Nat) : 0 ≤ r.getD i 0 ∧ r.getD i 0 ≤ 255 := by
  by_cases hi : i < r.length
  · have := h r[i] (List.getElem_mem _)
    simpa [List.getD, hi] using this
  · simp [List.getD, List.getElem?_eq_none (Nat.le_of_not_lt hi)]

/-- Zeros up to a multiple of four change nothing. -/
theorem words_pad : ∀ (n : Nat) (a : List Int) (k : Nat), a.length ≤ n → a.length % 4 ≠ 0 → k + a.length % 4 ≤ 4 → words (a ++ List.replicate k 0) = words a := by
  intro n
  induction n using Nat.strongRecOn with
  | _ n ih =>
    intro a k hn h1 h2
    match a, hn, h1, h2 with
    | [], _, h1, _ => simp at h1
    | [a], _, _, h2 => match k, h2 with
      | 0, _ => simp
      | 1, _ => simp [words]
      | 2, _ => simp [words, List.replicate]
      | 3, _ => simp [words, List.replicate]
      | k + 4, h2 => simp at h2
    | [a, b], _, _, h2 => match k, h2 with
      | 0, _ => simp
      | 1, _ => simp [words]
      | 2, _ => simp [words, List.replicate]
      | k + 3, h2 => simp at h2
    | [a, b, c], _, _, h2 => match k, h2 with
      | 0, _ => simp
      | 1, _ => simp [words]
      | k + 2, h2 => simp at h2
    | a :: b :: c :: d :: r, hn, h1, h2 =>
      simp only [List.cons_append, words]
      have hl : (a :: b :: c :: d :: r).length = r.length + 4 := by simp
      rw [hl] at hn h1 h2
      rw [ih r.length (by omega) r k (Nat.le_refl _) (by omega) (by omega)]

end Go.Proofs.Ytjpahogldfmaeaa
