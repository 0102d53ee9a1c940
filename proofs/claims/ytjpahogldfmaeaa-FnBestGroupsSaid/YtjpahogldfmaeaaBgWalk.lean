/- The walks for FnBestGroups: what groupCount, bestGroupCount, the doors to it, the reference and the law compute. -/
import Derived.Test.YtjpahogldfmaeaaRows
import Derived.Test.YtjpahogldfmaeaaBgPlain
import Derived.WalkKit
import Derived.ProofKit
import Derived.OpenShut
import Derived.Lib.Hide
import Derived.LoopTactic
import Derived.BigQuiet
import Derived.Deep.QuietTactic
namespace Go.Proofs.Ytjpahogldfmaeaa
open Go.ChangeShapes Go.WideShapes Go.ChangeAt Go.RowKit

theorem ret_int {k : IntKind} {a b : Int} (h : a = b) : Ending.returned (.int k a) = .returned (.int k b) := by rw [h]

set_option maxHeartbeats 400000 in
theorem group_any (b i n : Int) (w : World) (h0 : 16 ≤ n) (h1 : n ≤ 32768) (i0 : 1 ≤ i) (i1 : i ≤ 1048576) (b0 : 1 ≤ b) (b1 : b ≤ 2147483648) :
    Calls Try.prog 24 #[.int .u32 b, .int .u32 i, .int .u32 n] w fun e w' => e = .returned (.int .u32 (bgG b i n)) ∧ w = w' := by
  have hn : ¬ n = 0 := by omega
  have hP := bgP_bd h0 h1 i0 i1
  unfold bgD at hP
  obtain ⟨hP0, hP1⟩ := hP
  have hd0 : ¬ (32768 - n * 256 / 4096 - 2 = 0) := by omega
  go_enter Try.func24, Try.ntmps24
  go_wp2
  · have hlt : b < (i - 1) / n * (32768 - n * 256 / 4096 - 2) + 1 := by assumption
    go_ret
    exact ⟨ret_int (by unfold bgG bgM bgD; rw [if_pos hlt]), rfl⟩
  · have hlt : (i - 1) / n * (32768 - n * 256 / 4096 - 2) + 1 ≤ b := by assumption
    go_ret
    exact ⟨ret_int (by unfold bgG bgM bgD; rw [if_neg (by omega)]), rfl⟩

theorem groups_any (b i n : Int) (w : World) (h0 : 16 ≤ n) (h1 : n ≤ 32768) (i0 : 1 ≤ i) (i1 : i ≤ 1048576) (b0 : 1 ≤ b) (b1 : b ≤ 2147483648) :
    Calls Try.prog 16 #[.int .u64 b, .int .u64 i, .int .u64 n] w fun e w' => e = .returned (.int .u64 (bgG b i n)) ∧ w = w' := by
  have hn : ¬ n = 0 := by omega
  have hP := bgP_bd h0 h1 i0 i1
  unfold bgD at hP
  have hd : (32768 - n * 256 / 4096 - 2) = 32768 - n / 16 - 2 := by omega
  rw [hd] at hP
  obtain ⟨hP0, hP1⟩ := hP
  have HD := Lib.hid hd
  clear hd
  have hd0 : ¬ (32768 - n / 16 - 2 = 0) := by omega
  go_enter Try.func16, Try.ntmps16
  go_wp2
  · have hlt : b < (i - 1) / n * (32768 - n / 16 - 2) + 1 := by assumption
    go_ret
    exact ⟨ret_int (by unfold bgG bgM bgD; rw [HD.out, if_pos hlt]), rfl⟩
  · have hlt : (i - 1) / n * (32768 - n / 16 - 2) + 1 ≤ b := by assumption
    go_ret
    exact ⟨ret_int (by unfold bgG bgM bgD; rw [HD.out, if_neg (by omega)]), rfl⟩

def BestRel (b i : Int) (r : Int × Int) (v4 v5 v6 : Value) : Prop :=
  ∃ (d : Nat) (g p n : Int), 16 ≤ n ∧ 1 ≤ g ∧ g < 4294967296 ∧ 0 ≤ p ∧ p ≤ 32768 ∧ n ≤ 32784 ∧ Hid (n + 16 * d = 32784) ∧ v4 = .int .u32 g ∧ v5 = .int .u32 p ∧ v6 = .int .u32 n ∧ Hid (bgRun b i d g p n = r)

set_option maxHeartbeats 400000 in
theorem best_any (b i : Int) (w : World) (i0 : 1 ≤ i) (i1 : i ≤ 1048576) (b0 : 1 ≤ b) (b1 : b ≤ 2147483648) (r : Int × Int) (hr : Hid (bgRun b i 2048 4294967295 0 16 = r)) :
    Calls Try.prog 20 #[.int .u32 b, .int .u32 i] w fun e w' => e = .returned (.tuple #[.int .u32 r.1, .int .u32 r.2]) ∧ w = w' := by
  go_enter Try.func20, Try.ntmps20
  go_wp2
  go_loop [4, 5, 6] (fun v4 v5 v6 => BestRel b i r v4 v5 v6) (fun _ _ v6 => 32784 - (intOf v6).toNat)
  case atStart => exact ⟨2048, _, _, _, by omega, by omega, by omega, by omega, by omega, by omega, Lib.hid (by omega), rfl, rfl, rfl, hr⟩
  case round =>
    clear hr
    obtain ⟨d, g, p, n, hn0, hg0, hg1, hp0, hp1, hn1, hn2, rfl, rfl, rfl, H⟩ := hrel
    by_cases hlt : n ≤ 32768
    · have HG := Lib.hid (bgG_bd (n := n) hn0 hlt i0 i1 b0 b1)
      have Hg := Lib.hid hg1
      clear hg1
      obtain ⟨d, rfl⟩ : ∃ m, d = m + 1 := ⟨d - 1, by have := hn2.out; omega⟩
      go_wp2_with (go_at_call 24; refine (group_any _ _ _ _ (by omega) (by omega) (by omega) (by omega) (by omega) (by omega)).mono ?_; rintro e w' ⟨rfl, rfl⟩)
      all_goals
        go_round
        case rel => have hG := HG.out; have hg1 := Hg.out; have hn2 := hn2.out; exact ⟨d, _, _, _, by omega, by omega, by omega, by omega, by omega, by omega, Lib.hid (by omega), rfl, rfl, rfl, Lib.hid (by have := H.out; unfold bgRun at this; first | rwa [if_pos (by omega)] at this | rwa [if_neg (by omega)] at this)⟩
        case measure => simp [intOf]; omega
    · obtain rfl : d = 0 := by have := hn2.out; omega
      obtain rfl : (g, p) = r := H.out
      go_wp2
      go_ret2
      exact ⟨rfl, rfl⟩


def cap0 (g : Int) : Int := if g = 0 then 4294967295 else g
theorem cap0_pos {g : Int} (h : 1 ≤ g) : cap0 g = g := by unfold cap0; rw [if_neg (by omega)]

def SBestRel (b i : Int) (r : Int × Int) (v4 v5 v6 : Value) : Prop :=
  ∃ (d : Nat) (g p n : Int), 16 ≤ n ∧ 0 ≤ g ∧ g < 4294967296 ∧ 0 ≤ p ∧ p ≤ 32768 ∧ n ≤ 32784 ∧ Hid (n + 16 * d = 32784) ∧ v4 = .int .u64 g ∧ v5 = .int .u64 p ∧ v6 = .int .u64 n ∧ (g = 0 → 0 < d) ∧ Hid (bgRun b i d (cap0 g) p n = r)

set_option maxHeartbeats 400000 in
theorem sbest_any (b i : Int) (w : World) (i0 : 1 ≤ i) (i1 : i ≤ 1048576) (b0 : 1 ≤ b) (b1 : b ≤ 2147483648) (r : Int × Int) (hr : Hid (bgRun b i 2048 4294967295 0 16 = r)) :
    Calls Try.prog 11 #[.int .u64 b, .int .u64 i] w fun e w' => e = .returned (.tuple #[.int .u64 r.1, .int .u64 r.2]) ∧ w = w' := by
  go_enter Try.func11, Try.ntmps11
  go_wp2
  go_loop [4, 5, 6] (fun v4 v5 v6 => SBestRel b i r v4 v5 v6) (fun _ _ v6 => 32784 - (intOf v6).toNat)
  case atStart => exact ⟨2048, _, _, _, by omega, by omega, by omega, by omega, by omega, by omega, Lib.hid (by omega), rfl, rfl, rfl, by omega, hr⟩
  case round =>
    clear hr
    obtain ⟨d, g, p, n, hn0, hg0, hg1, hp0, hp1, hn1, hn2, rfl, rfl, rfl, hz, H⟩ := hrel
    by_cases hlt : n ≤ 32768
    · have HG := Lib.hid (bgG_bd (n := n) hn0 hlt i0 i1 b0 b1)
      have Hg := Lib.hid hg1
      have Hz := Lib.hid hz
      clear hg1 hz
      obtain ⟨d, rfl⟩ : ∃ m, d = m + 1 := ⟨d - 1, by have := hn2.out; omega⟩
      by_cases hg : g = 0
      · subst hg
        go_wp2_with (go_at_call 16; refine (groups_any _ _ _ _ (by omega) (by omega) (by omega) (by omega) (by omega) (by omega)).mono ?_; rintro e w' ⟨rfl, rfl⟩)
        go_round
        case rel =>
          have hG := HG.out; have hn2 := hn2.out
          refine ⟨d, _, _, _, by omega, by omega, by omega, by omega, by omega, by omega, Lib.hid (by omega), rfl, rfl, rfl, by omega, Lib.hid ?_⟩
          have h := H.out; unfold bgRun cap0 at h
          simp only [if_true] at h
          rw [if_pos (by omega)] at h
          rwa [cap0_pos (by omega)]
        case measure => simp [intOf]; omega
      · have hgb : (g == 0) = false := by simpa using hg
        go_wp2_with (go_at_call 16; refine (groups_any _ _ _ _ (by omega) (by omega) (by omega) (by omega) (by omega) (by omega)).mono ?_; rintro e w' ⟨rfl, rfl⟩)
        all_goals
          go_round
          case rel =>
            have hG := HG.out; have hn2 := hn2.out; have hg1 := Hg.out
            refine ⟨d, _, _, _, by omega, by omega, by omega, by omega, by omega, by omega, Lib.hid (by omega), rfl, rfl, rfl, by omega, Lib.hid ?_⟩
            have h := H.out; unfold bgRun at h
            rw [cap0_pos (by omega)] at h ⊢
            split at h
            · first | exact h | omega
            · first | exact h | omega
          case measure => simp [intOf]; omega
    · obtain rfl : d = 0 := by have := hn2.out; omega
      have hg : ¬ g = 0 := by omega
      have h := H.out
      rw [cap0_pos (by omega)] at h
      obtain rfl : (g, p) = r := h
      clear H hz
      go_wp2
      go_ret2
      exact ⟨rfl, rfl⟩

theorem door_any (b i : Int) (w : World) (i0 : 1 ≤ i) (i1 : i ≤ 1048576) (b0 : 1 ≤ b) (b1 : b ≤ 2147483648) (r : Int × Int) (hr : Hid (bgRun b i 2048 4294967295 0 16 = r)) :
    Calls Try.prog 15 #[.int .u32 b, .int .u32 i] w fun e w' => e = .returned (.tuple #[.int .u32 r.1, .int .u32 r.2]) ∧ w = w' := by
  go_enter Try.func15, Try.ntmps15
  go_wp2_with (go_at_call 20; refine (best_any _ _ _ i0 i1 b0 b1 r hr).mono ?_; rintro e w' ⟨rfl, rfl⟩)
  go_ret2
  exact ⟨rfl, rfl⟩

theorem impl_any (b i : Int) (w : World) (i0 : 1 ≤ i) (i1 : i ≤ 1048576) (b0 : 1 ≤ b) (b1 : b ≤ 2147483648) (r : Int × Int) (hr : Hid (bgRun b i 2048 4294967295 0 16 = r)) :
    Calls Try.prog 10 #[.int .u32 b, .int .u32 i] w fun e w' => e = .returned (.tuple #[.int .u32 r.1, .int .u32 r.2]) ∧ w = w' := by
  go_enter Try.func10, Try.ntmps10
  go_wp2_with (go_at_call 15; refine (door_any _ _ _ i0 i1 b0 b1 r hr).mono ?_; rintro e w' ⟨rfl, rfl⟩)
  go_ret2
  exact ⟨rfl, rfl⟩

theorem law_walk (b i : Int) (_w0 : (Lit.int .u32 b).wf = true) (_w1 : (Lit.int .u32 i).wf = true) (w : World) :
    Calls Try.prog 5 #[.int .u32 b, .int .u32 i] w fun e w' => e = .returned (.bool true) ∧ w = w' := by
  by_cases c1 : b < 1
  · go_enter Try.func5, Try.ntmps5
    go_wp2
    go_ret
    exact ⟨rfl, rfl⟩
  by_cases c2 : b > 2147483648
  · go_enter Try.func5, Try.ntmps5
    go_wp2
    go_ret
    exact ⟨rfl, rfl⟩
  by_cases c3 : i < 1
  · go_enter Try.func5, Try.ntmps5
    go_wp2
    go_ret
    exact ⟨rfl, rfl⟩
  by_cases c4 : i > 1048576
  · go_enter Try.func5, Try.ntmps5
    go_wp2
    go_ret
    exact ⟨rfl, rfl⟩
  obtain ⟨r, hr⟩ : ∃ r, bgRun b i 2048 4294967295 0 16 = r := ⟨_, rfl⟩
  have hb := bgRun_bd (b := b) (i := i) (by omega) (by omega) (by omega) (by omega) 2048 4294967295 0 16 (by omega) (by omega) (by omega) (by omega) (by omega) (by omega)
  rw [hr] at hb
  have HR := Lib.hid hr
  clear hr
  obtain ⟨r1, r2, r3, r4⟩ := hb
  obtain ⟨x, y⟩ := r
  simp only at r1 r2 r3 r4
  have b0 : 1 ≤ b := by omega
  have b1 : b ≤ 2147483648 := by omega
  have i0 : 1 ≤ i := by omega
  have i1 : i ≤ 1048576 := by omega
  clear c1 c2 c3 c4
  go_enter Try.func5, Try.ntmps5
  go_wp2_with (first | (go_at_call 10; refine (impl_any _ _ _ i0 i1 b0 b1 (x, y) HR).mono ?_; rintro e w' ⟨rfl, rfl⟩) | (go_at_call 11; refine (sbest_any _ _ _ i0 i1 b0 b1 (x, y) HR).mono ?_; rintro e w' ⟨rfl, rfl⟩))
  go_ret
  exact ⟨rfl, rfl⟩

end Go.Proofs.Ytjpahogldfmaeaa
