/- FnHandlePlaces: the law's walk whole, with what lies beyond its bounds. -/
import Derived.Test.YtnkhfdnahnphdaaDoorHuWalk
namespace Go.Proofs.YtnkhfdnahnphdaaDoor
open Go.ChangeShapes Go.WideShapes Go.ChangeAt Go.RowKit Go.Rd
set_option linter.unusedVariables false
open Go.Proofs.YtnkhfdnahnphdaaDoorW.PrintWords Go.Proofs.YtnkhfdnahnphdaaDoorW.PrintLast Go.Proofs.YtnkhfdnahnphdaaDoorW.PrintMore

theorem fits13_all (A : Option Addr) (n c : Nat) (w : World) (h : IsRows deedKs w A n c) : Calls Tryd.prog 9 #[.slice A n c] w (SomeBool w) := by
  by_cases g : n ≤ 2147483647
  · exact fits13_any A n c w h g
  · clear h
    have g' : 2147483647 < n := by omega
    clear g
    go_enter Tryd.func9, Tryd.ntmps9
    go_wp2
    go_ret
    exact ⟨_, rfl, Below.refl _ _⟩
set_option maxRecDepth 100000 in
set_option maxHeartbeats 1000000 in
theorem hp_early (dA : Option Addr) (dm dc : Nat) (eA : Option Addr) (en ec : Nat) (w : World) (hr : IsRows deedKs w eA en ec) (h : 500 < dm ∨ 40 < en) :
    Calls Tryd.prog 3 #[.slice dA dm dc, .slice eA en ec] w fun e w' => e = .returned (.bool true) ∧ Below w.heap.size w w' := by
  have h9 := fits13_all eA en ec w hr
  have H9 := Lib.hid h9
  clear h9 hr
  by_cases g0 : dm ≤ 2147483647
  rotate_left
  · have g : 2147483647 < dm := by omega
    clear g0 h H9
    go_enter Tryd.func3, Tryd.ntmps3
    go_wp2
    go_ret
    exact ⟨rfl, Below.refl _ _⟩
  by_cases g1 : dm ≤ 500
  rotate_left
  · have g : 500 < dm := by omega
    clear g1 h
    go_enter Tryd.func3, Tryd.ntmps3
    go_wp2_with fail
    refine H9.out.mono ?_
    rintro e w1 ⟨r, rfl, hB1⟩
    cases r with
    | false =>
      go_wp2
      go_ret
      exact ⟨rfl, hB1⟩
    | true =>
      go_wp2
      go_ret
      exact ⟨rfl, hB1⟩
  have g : 40 < en := by omega
  clear h
  go_enter Tryd.func3, Tryd.ntmps3
  go_wp2_with fail
  refine H9.out.mono ?_
  rintro e w1 ⟨r, rfl, hB1⟩
  cases r with
  | false =>
    go_wp2
    go_ret
    exact ⟨rfl, hB1⟩
  | true =>
    go_wp2
    go_ret
    exact ⟨rfl, hB1⟩
theorem hp_sents {w : World} (hL : laidMetH Tryd.prog Rows.fnHandlePlacesRow.laid w) : ∃ ad, Sents w.heap.size w ad := sents_of hL
theorem deed_struct : StructOf Tryd.prog 31 deedKs where
  fs := ⟨_, Tryd.underlying31, rfl, fun i k f hk hf => by
    match i, hk, hf with
    | 0, hk, hf => cases hk; cases hf; exact ⟨⟨Tryd.underlying3, by kernel_rfl⟩, rfl⟩
    | 1, hk, hf => cases hk; cases hf; exact ⟨⟨Tryd.underlying3, by kernel_rfl⟩, rfl⟩
    | 2, hk, hf => cases hk; cases hf; exact ⟨⟨Tryd.underlying3, by kernel_rfl⟩, rfl⟩
    | 3, hk, hf => cases hk; cases hf; exact ⟨⟨5, Tryd.underlying22, Tryd.underlying5, by kernel_rfl, by kernel_rfl⟩, rfl⟩
    | i + 4, hk, hf => simp at hk⟩
  cells := by kernel_rfl
theorem hp_main (w : World) (dA : Option Addr) (dm dc : Nat) (data : List Int) (hd : IsRow .u8 w dA dm dc data) (eA : Option Addr) (en ec : Nat) (hr : IsRows deedKs w eA en ec) (hL : laidMetH Tryd.prog Rows.fnHandlePlacesRow.laid w) :
    Calls Tryd.prog 3 #[.slice dA dm dc, .slice eA en ec] w fun e w' => e = .returned (.bool true) ∧ Below w.heap.size w w' := by
  by_cases h : 500 < dm ∨ 40 < en
  · exact hp_early dA dm dc eA en ec w hr h
  · exact hp_walk dA dm dc _ eA en ec w (BytesIn.of_row hd) hr (by omega) (by omega) (hp_sents hL)
end Go.Proofs.YtnkhfdnahnphdaaDoor
