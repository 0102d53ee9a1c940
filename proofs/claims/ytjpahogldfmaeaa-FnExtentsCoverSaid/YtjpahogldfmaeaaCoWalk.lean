/- The walk of FnExtentsCover. -/
import Derived.Test.YtjpahogldfmaeaaRows
import Derived.Test.YtjpahogldfmaeaaRd
import Derived.Test.YtjpahogldfmaeaaExWalk
import Derived.Deep.AppendLies
import Derived.Laws.MakeOwn
import Derived.Laws.OwnMore
import Derived.WalkSmall
import Derived.WalkKit
import Derived.ProofKit
import Derived.OpenShut
import Derived.Lib.Hide
import Derived.LoopTactic
import Derived.BigQuiet
import Derived.Deep.QuietTactic
import Derived.WalkSpells
namespace Go.Proofs.Ytjpahogldfmaeaa
open Go.ChangeShapes Go.WideShapes Go.ChangeAt Go.RowKit Go.Rd

def CoverRel (B n : Nat) (off blocks : Int) (w : World) (v9 v47 : Value) (wr : World) : Prop :=
  ∃ (k : Nat) (a : Int), k ≤ n ∧ v47 = .int .i64 k ∧ v9 = .int .u32 a ∧ Below B w wr ∧ Hid ((k < n ∧ a = eB off k) ∨ (k = n ∧ a = blocks))

set_option maxHeartbeats 1000000 in
theorem cover_in (start off blocks : Int) (w : World) (h0 : 0 ≤ off) (h1 : off < blocks) (h2 : blocks ≤ 2147483648) (h3 : 0 ≤ start) (h4 : start + blocks ≤ 4294967295) (h5 : (blocks - off + 32767) / 32768 ≤ 340) :
    Calls Try.prog 6 #[.int .u32 start, .int .u32 off, .int .u32 blocks] w fun e w' => e = .returned (.bool true) ∧ Below w.heap.size w w' := by
  obtain ⟨n, hq⟩ : ∃ n : Nat, (n : Int) = (blocks - off + 32767) / 32768 := ⟨((blocks - off + 32767) / 32768).toNat, by omega⟩
  have hn0 : 1 ≤ n := by omega
  have hn : n ≤ 340 := by omega
  have hq' : (blocks - off + 32768 - 1) / 32768 = (n : Int) := by omega
  have hE := Lib.hid (eN_bounds h1 hq)
  have HQ := Lib.hid hq
  clear hq h5
  have t1 : ¬ (340 < (n : Int)) := by omega
  have t2 : ¬ (4294967295 < start + blocks) := by omega
  have t3 : ¬ (2147483648 < blocks) := by omega
  have t4 : ¬ (blocks ≤ off) := by omega
  go_enter Try.func6, Try.ntmps6
  go_wp2_with (go_at_call 12; refine (impl_ext n _ _ _ _ hn0 hn h0 h1 h2 h3 h4 HQ).mono ?_; rintro e w1 ⟨v, rfl, hown1, hb1⟩; obtain ⟨g, cap, rfl, hg1, hg2⟩ := World.ownsRow.form hown1 hn0)
  go_loopw [9, 47] (fun v9 v47 wr => CoverRel w1.heap.size n off blocks w1 v9 v47 wr) (fun _ v47 _ => n - (intOf v47).toNat)
  case atStart => exact ⟨0, off, by omega, rfl, rfl, Below.refl _ _, Lib.hid (.inl ⟨by omega, by simp [eB]⟩)⟩
  case round =>
    obtain ⟨k, a, hk, rfl, rfl, hbk, H⟩ := hrel
    by_cases hlt : k < n
    · have ha : a = eB off k := by
        rcases H.out with ⟨_, h⟩ | ⟨h, _⟩
        · exact h
        · omega
      subst ha
      obtain ⟨q0, q1, q2⟩ := row3_at start off blocks k n hlt
      have d0 := (hbk.cell (p := ⟨g, k * 3, none⟩) hg2).trans ((hown1.cellAt (k * 3) (by omega)).trans q0)
      have d1 := (hbk.cell (p := ⟨g, k * 3 + 1, none⟩) hg2).trans ((hown1.cellAt (k * 3 + 1) (by omega)).trans q1)
      have d2 := (hbk.cell (p := ⟨g, k * 3 + 2, none⟩) hg2).trans ((hown1.cellAt (k * 3 + 2) (by omega)).trans q2)
      clear q0 q1 q2 H
      have b1 : eB off k < blocks := eB_lt hlt hE.out.2.1
      have b0 : 0 ≤ eB off k := eB_nn h0
      have hx : eB off k + eL off blocks k = (if k + 1 < n then eB off (k + 1) else blocks) := by
        by_cases h : k + 1 < n
        · rw [if_pos h]; exact eB_next h hE.out.2.1
        · rw [if_neg h]; exact eB_last (by omega) hE.out.2.2
      obtain ⟨l0, l1, l2⟩ := eL_bd b1
      have HX := Lib.hid hx
      clear hx
      generalize eB off k = x at *
      generalize eL off blocks k = y at *
      have s1 : (y == 0) = false := by simp; omega
      go_wp2
      go_roundw
      case rel =>
        refine ⟨k + 1, x + y, by omega, by go_num, rfl, hbk.alloc hbk.size _, Lib.hid ?_⟩
        have h := HX.out
        by_cases hk1 : k + 1 < n
        · rw [if_pos hk1] at h; exact .inl ⟨hk1, h⟩
        · rw [if_neg hk1] at h; exact .inr ⟨by omega, h⟩
      case measure => simp [intOf]; omega
    · have ha : a = blocks := by
        rcases H.out with ⟨h, _⟩ | ⟨_, h⟩
        · omega
        · exact h
      subst ha
      obtain rfl : k = n := by omega
      go_wp2
      go_ret
      exact ⟨rfl, hb1.trans (hbk.mono hb1.size)⟩


theorem cover_walk (start : Int) (w0 : (Lit.int .u32 start).wf = true) (off : Int) (w1 : (Lit.int .u32 off).wf = true) (blocks : Int) (w2 : (Lit.int .u32 blocks).wf = true) (w : World) :
    Calls Try.prog 6 #[.int .u32 start, .int .u32 off, .int .u32 blocks] w fun e w' => e = .returned (.bool true) ∧ Below w.heap.size w w' := by
  have h0 : 0 ≤ off ∧ off ≤ 4294967295 := by simpa [Lit.wf, IntKind.min, IntKind.max, IntKind.bits, IntKind.signed] using w1
  have h3 : 0 ≤ start ∧ start ≤ 4294967295 := by simpa [Lit.wf, IntKind.min, IntKind.max, IntKind.bits, IntKind.signed] using w0
  have h6 : 0 ≤ blocks ∧ blocks ≤ 4294967295 := by simpa [Lit.wf, IntKind.min, IntKind.max, IntKind.bits, IntKind.signed] using w2
  obtain ⟨h0, h0'⟩ := h0
  obtain ⟨h3, h3'⟩ := h3
  obtain ⟨h6, h6'⟩ := h6
  clear w0 w1 w2
  by_cases c1 : blocks ≤ off
  · go_enter Try.func6, Try.ntmps6
    go_wp2
    go_ret
    exact ⟨rfl, Below.refl _ _⟩
  have g1 : off < blocks := by omega
  by_cases c2 : 2147483648 < blocks
  · go_enter Try.func6, Try.ntmps6
    go_wp2
    go_ret
    exact ⟨rfl, Below.refl _ _⟩
  have g2 : blocks ≤ 2147483648 := by omega
  by_cases c3 : 4294967295 < start + blocks
  · go_enter Try.func6, Try.ntmps6
    go_wp2
    go_ret
    exact ⟨rfl, Below.refl _ _⟩
  by_cases c4 : 340 < (blocks - off + 32767) / 32768
  · have c5 : 340 < (blocks - off + 32768 - 1) / 32768 := by omega
    go_enter Try.func6, Try.ntmps6
    go_wp2
    go_ret
    exact ⟨rfl, Below.refl _ _⟩
  exact cover_in start off blocks w h0 g1 g2 h3 (by omega) (by omega)

end Go.Proofs.Ytjpahogldfmaeaa
