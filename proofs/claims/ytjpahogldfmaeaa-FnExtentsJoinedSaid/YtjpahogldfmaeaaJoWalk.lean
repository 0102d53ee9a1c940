/- The walk of FnExtentsJoined. -/
import Derived.Test.YtjpahogldfmaeaaRows
import Derived.Test.YtjpahogldfmaeaaRd
import Derived.Test.YtjpahogldfmaeaaExWalk
import Derived.Deep.AppendLies
import Derived.WalkSmall
import Derived.WalkKit
import Derived.ProofKit
import Derived.OpenShut
import Derived.Lib.Hide
import Derived.LoopTactic
import Derived.BigQuiet
import Derived.Deep.QuietTactic
import Derived.WalkSpells
namespace Go.Proofs.Ytjpahogldfmaeaa
open Go.ChangeShapes Go.WideShapes Go.ChangeAt Go.RowKit Go.Rd

/-- What the thin function's extents are, none of them too. -/
def Fits (n : Nat) (off blocks : Int) : Prop := n = 0 ∨ (1 ≤ n ∧ n ≤ 340 ∧ off < blocks ∧ (n : Int) = (blocks - off + 32767) / 32768)

theorem impl_ext_any (n : Nat) (start off blocks : Int) (w : World) (h0 : 0 ≤ off) (h2 : blocks ≤ 2147483648) (h3 : 0 ≤ start) (h4 : start + blocks ≤ 4294967295) (hf : Fits n off blocks) :
    Calls Try.prog 12 #[.int .i64 n, .int .u32 start, .int .u32 off, .int .u32 blocks] w fun e w' =>
      ∃ a cap, e = .returned (.slice a n cap) ∧ w'.ownsRow w.heap.size 41 3 (.slice a n cap) n (row3 start off blocks n) ∧ Below w.heap.size w w' := by
  rcases hf with rfl | ⟨hn0, hn, h1, hq⟩
  · go_enter Try.func12, Try.ntmps12
    go_wp2
    go_ret
    exact ⟨none, 0, rfl, World.ownsRow_nil _ _ _ _, Below.refl _ _⟩
  · refine (impl_ext n start off blocks w hn0 hn h0 h1 h2 h3 h4 hq).mono ?_
    rintro e w' ⟨v, rfl, hown, hb⟩
    obtain ⟨g, cap, rfl, hg1, hg2⟩ := World.ownsRow.form hown hn0
    exact ⟨_, cap, rfl, hown, hb⟩

theorem row_some {w : World} {B : Nat} {a : Option Addr} {n cap : Nat} {e : TypeId} {size : Nat} {xs : List Value} (h : w.ownsRow B e size (.slice a n cap) n xs) (hn : 0 < n) : ∃ g, a = some ⟨g, 0, none⟩ ∧ g < w.heap.size := by
  obtain ⟨g, cap', hv, _, hg⟩ := World.ownsRow.form h hn
  simp only [Value.slice.injEq] at hv
  exact ⟨g, hv.1, hg⟩

def JoinRel (n : Nat) (B : Nat) (w : World) (v105 : Value) (wr : World) : Prop :=
  ∃ k : Nat, k ≤ n ∧ v105 = .int .i64 k ∧ Below B w wr

set_option maxHeartbeats 1000000 in
theorem joined_in (start off blocks : Int) (c r : Nat) (w : World) (h0 : 0 ≤ off) (h3 : 0 ≤ start) (h2 : blocks ≤ 2147483648) (h4 : start + blocks ≤ 4294967295) (hc : c ≤ 300)
    (hm : off + (c : Int) * 32768 ≤ blocks) (hr : Hid ((r : Int) = (blocks - (off + (c : Int) * 32768) + 32767) / 32768)) (hcr : c + r ≤ 340) (hcr0 : 1 ≤ c + r) :
    Calls Try.prog 7 #[.int .u32 start, .int .u32 off, .int .i64 c, .int .u32 blocks] w fun e w' => e = .returned (.bool true) ∧ Below w.heap.size w w' := by
  have hr1 : (blocks - (off + (c : Int) * 32768) + 32768 - 1) / 32768 = (r : Int) := by have := hr.out; omega
  have f1 : Fits c off (off + (c : Int) * 32768) := by
    by_cases h : c = 0
    · exact .inl h
    · exact .inr ⟨by omega, by omega, by omega, by omega⟩
  have f2 : Fits r (off + (c : Int) * 32768) blocks := by
    by_cases h : r = 0
    · exact .inl h
    · exact .inr ⟨by omega, by omega, by have := hr.out; omega, hr.out⟩
  have f3 : Fits (c + r) off blocks := .inr ⟨hcr0, hcr, by have := hr.out; omega, by have := hr.out; omega⟩
  have t1 : ((c : Int) + (r : Int) == 0) = false := by simp; omega
  have t2 : ¬ (4294967295 < start + blocks) := by omega
  have t3 : ¬ (340 < (c : Int) + (r : Int)) := by omega
  have t4 : ¬ (blocks < off + (c : Int) * 32768) := by omega
  go_enter Try.func7, Try.ntmps7
  go_wp2_with fail
  refine (impl_ext_any c start off (off + (c : Int) * 32768) _ h0 (by omega) h3 (by omega) f1).mono ?_
  rintro e w1 ⟨a1, c1, rfl, hown1, hb1⟩
  go_wp2_with fail
  refine (impl_ext_any r start (off + (c : Int) * 32768) blocks _ (by omega) h2 h3 h4 f2).mono ?_
  rintro e w2 ⟨a2, c2, rfl, hown2, hb2⟩
  go_wp2_with fail
  rw [show ((c : Int) + (r : Int)) = ((c + r : Nat) : Int) from by omega]
  refine (impl_ext_any (c + r) start off blocks _ h0 h2 h3 h4 f3).mono ?_
  rintro e w3 ⟨a3, c3, rfl, hown3, hb3⟩
  obtain ⟨g3, rfl, hg3⟩ := row_some hown3 (by omega)
  have u1 : (((c + r : Nat) : Int) != (c : Int) + (r : Int)) = false := by simp
  go_wp2_with fail
  go_loopw [105] (fun v105 wr => JoinRel (c + r) w3.heap.size w3 v105 wr) (fun v105 _ => c + r - (intOf v105).toNat)
  case atStart => exact ⟨0, by omega, rfl, Below.refl _ _⟩
  case round =>
    obtain ⟨k, hk, rfl, hbk⟩ := hrel
    by_cases hlt : k < c + r
    · obtain ⟨q0, q1, q2⟩ := row3_at start off blocks k (c + r) hlt
      have d0 := (hbk.cell (p := ⟨g3, k * 3, none⟩) hg3).trans ((hown3.cellAt (k * 3) (by omega)).trans q0)
      have d1 := (hbk.cell (p := ⟨g3, k * 3 + 1, none⟩) hg3).trans ((hown3.cellAt (k * 3 + 1) (by omega)).trans q1)
      have d2 := (hbk.cell (p := ⟨g3, k * 3 + 2, none⟩) hg3).trans ((hown3.cellAt (k * 3 + 2) (by omega)).trans q2)
      clear q0 q1 q2
      by_cases hkc : k < c
      · obtain ⟨g1, rfl, hg1⟩ := row_some hown1 (by omega)
        obtain ⟨q0, q1, q2⟩ := row3_at start off (off + (c : Int) * 32768) k c hkc
        have hw13 : g1 < w2.heap.size := Nat.lt_of_lt_of_le hg1 hb2.size
        have hw1r : g1 < w3.heap.size := Nat.lt_of_lt_of_le hw13 hb3.size
        have e1 : ∀ j, wr.cell? ⟨g1, j, none⟩ = w1.cell? ⟨g1, j, none⟩ := fun j => ((hbk.cell (p := ⟨g1, j, none⟩) hw1r).trans (hb3.cell (p := ⟨g1, j, none⟩) hw13)).trans (hb2.cell (p := ⟨g1, j, none⟩) hg1)
        have x0 := (e1 (k * 3)).trans ((hown1.cellAt (k * 3) (by omega)).trans q0)
        have x1 := (e1 (k * 3 + 1)).trans ((hown1.cellAt (k * 3 + 1) (by omega)).trans q1)
        have x2 := (e1 (k * 3 + 2)).trans ((hown1.cellAt (k * 3 + 2) (by omega)).trans q2)
        have el : eL off (off + (c : Int) * 32768) k = eL off blocks k := by
          unfold eL eB
          by_cases h1 : 32768 < off + (c : Int) * 32768 - (off + (k : Int) * 32768)
          · rw [if_pos h1, if_pos (by omega)]
          · rw [if_neg h1]
            by_cases h2 : 32768 < blocks - (off + (k : Int) * 32768)
            · rw [if_pos h2]; omega
            · rw [if_neg h2]; omega
        rw [el] at x1
        have hgr : g1 < wr.heap.size := Nat.lt_of_lt_of_le hw1r hbk.size
        have y0 := cell_alloc_old hgr x0
        have y1 := cell_alloc_old hgr x1
        have y2 := cell_alloc_old hgr x2
        clear q0 q1 q2 e1 el x0 x1 x2
        have s1 : decide (k < c) = true := by simpa using hkc
        have s2 : decide (c ≤ k) = false := by simpa using hkc
        go_wp2_with fail
        go_quiet (fail)
        go_wp2_with fail
        go_roundw
        case rel => exact ⟨k + 1, by omega, by go_num, below_drewN (hbk.alloc hbk.size _) _⟩
        case measure => simp [intOf]; omega
      · have hkc' : c ≤ k := by omega
        obtain ⟨g2, rfl, hg2⟩ := row_some hown2 (by omega)
        obtain ⟨j, rfl⟩ : ∃ j, k = c + j := ⟨k - c, by omega⟩
        obtain ⟨q0, q1, q2⟩ := row3_at start (off + (c : Int) * 32768) blocks j r (by omega)
        have hw2r : g2 < w3.heap.size := Nat.lt_of_lt_of_le hg2 hb3.size
        have e1 : ∀ j, wr.cell? ⟨g2, j, none⟩ = w2.cell? ⟨g2, j, none⟩ := fun j => (hbk.cell (p := ⟨g2, j, none⟩) hw2r).trans (hb3.cell (p := ⟨g2, j, none⟩) hg2)
        have x0 := (e1 (j * 3)).trans ((hown2.cellAt (j * 3) (by omega)).trans q0)
        have x1 := (e1 (j * 3 + 1)).trans ((hown2.cellAt (j * 3 + 1) (by omega)).trans q1)
        have x2 := (e1 (j * 3 + 2)).trans ((hown2.cellAt (j * 3 + 2) (by omega)).trans q2)
        have ee : eB (off + (c : Int) * 32768) j = eB off (c + j) := by unfold eB; omega
        have el : eL (off + (c : Int) * 32768) blocks j = eL off blocks (c + j) := by unfold eL; rw [ee]
        rw [ee] at x0 x2
        rw [el] at x1
        have hgr : g2 < wr.heap.size := Nat.lt_of_lt_of_le hw2r hbk.size
        have y0 := cell_alloc_old hgr x0
        have y1 := cell_alloc_old hgr x1
        have y2 := cell_alloc_old hgr x2
        clear q0 q1 q2 e1 el ee x0 x1 x2
        have s1 : decide ((c : Int) + (j : Int) < (c : Int)) = false := decide_eq_false (by omega)
        have s2 : decide ((c : Int) ≤ (c : Int) + (j : Int)) = true := decide_eq_true (by omega)
        have s3 : (c : Int) + (j : Int) - (c : Int) = (j : Int) := by omega
        go_wp2_with fail
        go_quiet (fail)
        go_wp2_with fail
        go_roundw
        case rel => exact ⟨c + j + 1, by omega, by go_num, below_drewN (hbk.alloc hbk.size _) _⟩
        case measure => simp [intOf]; omega
    · obtain rfl : k = c + r := by omega
      go_wp2_with fail
      go_ret
      exact ⟨rfl, (hb1.trans (hb2.mono hb1.size)).trans ((hb3.mono (Nat.le_trans hb1.size hb2.size)).trans (hbk.mono (Nat.le_trans (Nat.le_trans hb1.size hb2.size) hb3.size)))⟩


set_option maxHeartbeats 2000000 in
theorem joined_walk (start : Int) (w0 : (Lit.int .u32 start).wf = true) (off : Int) (w1 : (Lit.int .u32 off).wf = true) (cut : Int) (_w2 : (Lit.int .i64 cut).wf = true) (blocks : Int) (w3 : (Lit.int .u32 blocks).wf = true) (w : World) :
    Calls Try.prog 7 #[.int .u32 start, .int .u32 off, .int .i64 cut, .int .u32 blocks] w fun e w' => e = .returned (.bool true) ∧ Below w.heap.size w w' := by
  have h0 : 0 ≤ off ∧ off ≤ 4294967295 := by simpa [Lit.wf, IntKind.min, IntKind.max, IntKind.bits, IntKind.signed] using w1
  have h3 : 0 ≤ start ∧ start ≤ 4294967295 := by simpa [Lit.wf, IntKind.min, IntKind.max, IntKind.bits, IntKind.signed] using w0
  have h6 : 0 ≤ blocks ∧ blocks ≤ 4294967295 := by simpa [Lit.wf, IntKind.min, IntKind.max, IntKind.bits, IntKind.signed] using w3
  obtain ⟨h0, h0'⟩ := h0
  obtain ⟨h3, h3'⟩ := h3
  obtain ⟨h6, h6'⟩ := h6
  clear w0 w1 w3
  by_cases c1 : cut < 0
  · go_enter Try.func7, Try.ntmps7
    go_wp2
    go_ret
    exact ⟨rfl, Below.refl _ _⟩
  by_cases c2 : 300 < cut
  · go_enter Try.func7, Try.ntmps7
    go_wp2
    go_ret
    exact ⟨rfl, Below.refl _ _⟩
  by_cases c3 : 2147483648 < blocks
  · go_enter Try.func7, Try.ntmps7
    go_wp2
    go_ret
    exact ⟨rfl, Below.refl _ _⟩
  obtain ⟨c, rfl⟩ : ∃ c : Nat, cut = (c : Int) := ⟨cut.toNat, by omega⟩
  have g1 : c ≤ 300 := by omega
  have g3 : blocks ≤ 2147483648 := by omega
  clear c1 c2 c3 h6'
  by_cases c4 : blocks < off + (c : Int) * 32768
  · go_enter Try.func7, Try.ntmps7
    go_wp2
    go_ret
    exact ⟨rfl, Below.refl _ _⟩
  have g4 : off + (c : Int) * 32768 ≤ blocks := by omega
  by_cases c5 : 4294967295 < start + blocks
  · go_enter Try.func7, Try.ntmps7
    go_wp2
    go_ret
    exact ⟨rfl, Below.refl _ _⟩
  have g5 : start + blocks ≤ 4294967295 := by omega
  clear c4 c5 h0' h3'
  obtain ⟨r, hr⟩ : ∃ r : Nat, (r : Int) = (blocks - (off + (c : Int) * 32768) + 32767) / 32768 := ⟨((blocks - (off + (c : Int) * 32768) + 32767) / 32768).toNat, by omega⟩
  have hr1 : (blocks - (off + (c : Int) * 32768) + 32768 - 1) / 32768 = (r : Int) := by omega
  have hr2 : r ≤ 65537 := by omega
  have HR := Lib.hid hr
  clear hr
  by_cases c6 : 340 < c + r
  · have g6 : 340 < (c : Int) + (r : Int) := by omega
    go_enter Try.func7, Try.ntmps7
    go_wp2
    go_ret
    exact ⟨rfl, Below.refl _ _⟩
  by_cases c7 : c + r = 0
  · have g7 : ((c : Int) + (r : Int) == 0) = true := by simp; omega
    have g8 : ¬ 340 < (c : Int) + (r : Int) := by omega
    clear c6 c7
    go_enter Try.func7, Try.ntmps7
    go_wp2
    go_ret
    exact ⟨rfl, Below.refl _ _⟩
  exact joined_in start off blocks c r w h0 h3 g3 g5 g1 g4 HR (by omega) (by omega)

end Go.Proofs.Ytjpahogldfmaeaa
