/- A device of hashes in plain lists: levels of hashes, the tree, the superblock, and what is read back. -/
import Derived.WalkKit
import Derived.KernelRfl
namespace Go.Proofs.YtfanlhkpblemgaaDoor
set_option linter.unusedVariables false
/-- A byte's bounds. -/
def Fit8 (l : List Int) : Prop := ∀ c ∈ l, 0 ≤ c ∧ c ≤ 255
/-- A hash: 32 bytes of any bytes. -/
structure IsHash (H : List Int → List Int) : Prop where
  len : ∀ l, (H l).length = 32
  fit : ∀ l, Fit8 (H l)
def z32 : List Int := List.replicate 32 0
/-- The hashes of so many blocks, each behind 32 zeros. -/
def hashes (H : List Int → List Int) : Nat → List Int → List Int
  | 0, _ => []
  | n + 1, l => hashes H n l ++ H (z32 ++ (l.drop (4096 * n)).take 4096)
/-- Filled up to whole blocks. -/
def padded (l : List Int) : List Int := l ++ List.replicate (if l.length % 4096 = 0 then 0 else 4096 - l.length % 4096) 0
def level (H : List Int → List Int) (l : List Int) : List Int := padded (hashes H (l.length / 4096) l)
/-- The tree of a device of at most 300 blocks. -/
def mtree (H : List Int → List Int) (l : List Int) : List Int := if l.length ≤ 4096 * 128 then level H l else level H (level H l) ++ level H l
section
variable {H : List Int → List Int} (hH : IsHash H)
include hH
theorem hashes_length (n : Nat) (l : List Int) : (hashes H n l).length = 32 * n := by
  induction n with
  | zero => rfl
  | succ n ih => simp only [hashes, List.length_append, ih, hH.len]; omega
theorem hashes_fit (n : Nat) (l : List Int) : Fit8 (hashes H n l) := by
  induction n with
  | zero => intro c hc; simp [hashes] at hc
  | succ n ih =>
    intro c hc
    rcases List.mem_append.1 hc with h | h
    · exact ih c h
    · exact hH.fit _ c h
omit hH in
theorem padded_fit {l : List Int} (h : Fit8 l) : Fit8 (padded l) := by
  intro c hc
  rcases List.mem_append.1 hc with h1 | h1
  · exact h c h1
  · rw [(List.mem_replicate.1 h1).2]; omega
omit hH in
theorem padded_length (l : List Int) : (padded l).length = (l.length + 4095) / 4096 * 4096 := by
  unfold padded
  rw [List.length_append, List.length_replicate]
  split <;> omega
theorem level_length (l : List Int) : (level H l).length = (32 * (l.length / 4096) + 4095) / 4096 * 4096 := by
  unfold level
  rw [padded_length, hashes_length hH]
theorem level_fit (l : List Int) : Fit8 (level H l) := padded_fit (hashes_fit hH _ _)
/-- One level is the last one of at most 128 blocks, and none of more. -/
theorem level_one {l : List Int} (h1 : 4096 ≤ l.length) (h : l.length ≤ 4096 * 128) : (level H l).length = 4096 := by
  rw [level_length hH]
  omega
theorem level_more {l : List Int} (h0 : l.length % 4096 = 0) (h1 : 4096 * 128 < l.length) (h2 : l.length ≤ 4096 * 300) : 4096 < (level H l).length ∧ (level H l).length ≤ 4096 * 3 ∧ (level H l).length % 4096 = 0 := by
  rw [level_length hH]
  omega
theorem mtree_length {l : List Int} (h0 : l.length % 4096 = 0) (h1 : 4096 ≤ l.length) (h2 : l.length ≤ 4096 * 300) : 4096 ≤ (mtree H l).length ∧ (mtree H l).length ≤ 4096 * 4 := by
  unfold mtree
  split
  · rename_i h
    rw [level_one hH h1 h]
    omega
  · rename_i h
    obtain ⟨a, b, c⟩ := level_more hH h0 (by omega) h2
    rw [List.length_append, level_one hH (by omega) (by omega)]
    omega
theorem mtree_fit (l : List Int) : Fit8 (mtree H l) := by
  unfold mtree
  split
  · exact level_fit hH _
  · intro c hc
    rcases List.mem_append.1 hc with h | h
    · exact level_fit hH _ c h
    · exact level_fit hH _ c h
end
/-- Four bytes, the lowest ones first. -/
def le32 (x : Int) : List Int := [x % 256, x / 256 % 256, x / 65536 % 256, x / 16777216 % 256]
def sigV : List Int := [118, 101, 114, 105, 116, 121, 0, 0]
def algV : List Int := [115, 104, 97, 50, 53, 54]
/-- The superblock's 512 bytes. -/
def superB (u : List Int) (n : Int) : List Int := sigV ++ le32 1 ++ le32 1 ++ u ++ (algV ++ List.replicate 26 0) ++ le32 4096 ++ le32 4096 ++ le32 n ++ le32 0 ++ [32, 0] ++ List.replicate 6 0 ++ List.replicate 256 0 ++ List.replicate 168 0
theorem superB_length {u : List Int} (hu : u.length = 16) (n : Int) : (superB u n).length = 512 := by
  unfold superB
  simp only [List.length_append, List.length_replicate, hu, show sigV.length = 8 from rfl, show algV.length = 6 from rfl, show ∀ x, (le32 x).length = 4 from fun _ => rfl, List.length_cons, List.length_nil]
/-- The device of hashes: the superblock filled up to a block, and the tree. -/
def deviceB (H : List Int → List Int) (u l : List Int) : List Int := superB u ((l.length / 4096 : Nat) : Int) ++ List.replicate 3584 0 ++ mtree H l
theorem deviceB_tree (H : List Int → List Int) {u l : List Int} (hu : u.length = 16) : (deviceB H u l).drop 4096 = mtree H l := by
  unfold deviceB
  have : (superB u ((l.length / 4096 : Nat) : Int) ++ List.replicate 3584 (0 : Int)).length = 4096 := by rw [List.length_append, superB_length hu, List.length_replicate]
  exact List.drop_left' this
end Go.Proofs.YtfanlhkpblemgaaDoor
