/- Plain arithmetic for FnBestGroups: the number of groups for given blocks, inodes and inodes for each group, and the search for the best. -/
import Derived.Below
namespace Go.Proofs.Ytjpahogldfmaeaa

def bgD (n : Int) : Int := 32768 - n * 256 / 4096 - 2
def bgM (i n : Int) : Int := (i - 1) / n * bgD n + 1
def bgG (b i n : Int) : Int := ((if b < bgM i n then bgM i n else b) + bgD n - 1) / bgD n

theorem bgD_bd {n : Int} (h0 : 16 ≤ n) (h1 : n ≤ 32768) : 30718 ≤ bgD n ∧ bgD n ≤ 32765 := by unfold bgD; omega

theorem bgQ_bd {i n : Int} (h0 : 16 ≤ n) (i0 : 1 ≤ i) (i1 : i ≤ 1048576) : 0 ≤ (i - 1) / n ∧ (i - 1) / n ≤ 65535 := by
  constructor
  · exact Int.ediv_nonneg (by omega) (by omega)
  · have h : (i - 1) / n ≤ (i - 1) / 16 := by
      apply Int.le_ediv_of_mul_le (by omega)
      have h2 : (i - 1) / n * n ≤ i - 1 := Int.ediv_mul_le _ (by omega)
      have h3 : 0 ≤ (i - 1) / n := Int.ediv_nonneg (by omega) (by omega)
      have h4 : (i - 1) / n * 16 ≤ (i - 1) / n * n := Int.mul_le_mul_of_nonneg_left h0 h3
      omega
    omega

theorem bgP_bd {i n : Int} (h0 : 16 ≤ n) (h1 : n ≤ 32768) (i0 : 1 ≤ i) (i1 : i ≤ 1048576) : 0 ≤ (i - 1) / n * bgD n ∧ (i - 1) / n * bgD n ≤ 2147254275 := by
  have hq := bgQ_bd h0 i0 i1
  have hd := bgD_bd h0 h1
  have a : 0 ≤ (i - 1) / n * bgD n := Int.mul_nonneg hq.1 (by omega)
  have b' : (i - 1) / n * bgD n ≤ 65535 * 32765 := Int.mul_le_mul hq.2 hd.2 (by omega) (by omega)
  omega

theorem bgM_bd {i n : Int} (h0 : 16 ≤ n) (h1 : n ≤ 32768) (i0 : 1 ≤ i) (i1 : i ≤ 1048576) : 1 ≤ bgM i n ∧ bgM i n ≤ 2147254276 := by
  have h := bgP_bd h0 h1 i0 i1
  unfold bgM; omega

theorem bgG_bd {b i n : Int} (h0 : 16 ≤ n) (h1 : n ≤ 32768) (i0 : 1 ≤ i) (i1 : i ≤ 1048576) (b0 : 1 ≤ b) (b1 : b ≤ 2147483648) : 1 ≤ bgG b i n ∧ bgG b i n < 4294967295 := by
  have hm := bgM_bd h0 h1 i0 i1
  have hd := bgD_bd h0 h1
  unfold bgG
  generalize bgM i n = m at *
  generalize bgD n = d at *
  have hx : 1 ≤ (if b < m then m else b) ∧ (if b < m then m else b) ≤ 2147483648 := by split <;> omega
  generalize (if b < m then m else b) = x at *
  constructor
  · apply Int.le_ediv_of_mul_le (by omega); omega
  · have : (x + d - 1) / d ≤ (x + d - 1) := Int.ediv_le_self _ (by omega)
    omega

/-- The search from n on, for d rounds: the fewest groups so far are g, with p inodes for each. -/
def bgRun (b i : Int) : Nat → Int → Int → Int → Int × Int
  | 0, g, p, _ => (g, p)
  | d + 1, g, p, n => if bgG b i n < g then bgRun b i d (bgG b i n) n (n + 16) else bgRun b i d g p (n + 16)

theorem bgRun_bd {b i : Int} (i0 : 1 ≤ i) (i1 : i ≤ 1048576) (b0 : 1 ≤ b) (b1 : b ≤ 2147483648) : ∀ (d : Nat) (g p n : Int), 16 ≤ n → n + 16 * (d : Int) ≤ 32784 → 1 ≤ g → g < 4294967296 → 0 ≤ p → p ≤ 32768 →
    1 ≤ (bgRun b i d g p n).1 ∧ (bgRun b i d g p n).1 < 4294967296 ∧ 0 ≤ (bgRun b i d g p n).2 ∧ (bgRun b i d g p n).2 ≤ 32768
  | 0, g, p, n => fun _ _ a b' c d' => ⟨a, b', c, d'⟩
  | d + 1, g, p, n => fun h0 h1 a b' c d' => by
    have hG := bgG_bd (n := n) h0 (by omega) i0 i1 b0 b1
    unfold bgRun
    split
    · exact bgRun_bd i0 i1 b0 b1 d _ _ _ (by omega) (by omega) (by omega) (by omega) (by omega) (by omega)
    · exact bgRun_bd i0 i1 b0 b1 d _ _ _ (by omega) (by omega) (by omega) (by omega) (by omega) (by omega)

end Go.Proofs.Ytjpahogldfmaeaa
