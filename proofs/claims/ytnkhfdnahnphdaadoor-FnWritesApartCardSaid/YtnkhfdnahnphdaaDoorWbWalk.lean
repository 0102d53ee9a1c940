/- FnWritesApart: the law's walk, whatever comes in. -/
import Derived.Test.YtnkhfdnahnphdaaDoorWaWalk
namespace Go.Proofs.YtnkhfdnahnphdaaDoor
open Go.ChangeShapes Go.WideShapes Go.ChangeAt Go.RowKit Go.Rd

set_option maxRecDepth 100000 in
set_option maxHeartbeats 4000000 in
theorem wa_main (w : World) (dA : Option Addr) (dm dc : Nat) (zs : List Int) (hr : IsRow .u8 w dA dm dc zs) (bA : Option Addr) (bl bc : Nat) (zb : List Int) (hb : IsRow .u8 w bA bl bc zb) (cA : Option Addr) (cl cc : Nat) (zc : List Int) (hc : IsRow .u8 w cA cl cc zc)
    (x : Int) (_ : (Lit.int .i64 x).wf = true) (y : Int) (_ : (Lit.int .i64 y).wf = true) (_ : laidMetH Tryd.prog Rows.fnWritesApartRow.laid w) :
    Calls Tryd.prog 6 #[.slice dA dm dc, .slice bA bl bc, .slice cA cl cc, .int .i64 x, .int .i64 y] w fun e w' => e = .returned (.bool true) ∧ Below w.heap.size w w' := by
  have hd1 := BytesIn.of_row hr
  have hb1 := BytesIn.of_row hb
  have hc1 := BytesIn.of_row hc
  clear hr hb hc
  by_cases g0 : dm ≤ 2147483647
  rotate_left
  · have g : 2147483647 < dm := by omega
    clear g0 hd1 hb1 hc1
    go_enter Tryd.func6, Tryd.ntmps6
    go_wp2
    go_ret
    exact ⟨rfl, Below.refl _ _⟩
  by_cases g1 : bl ≤ 2147483647
  rotate_left
  · have g : 2147483647 < bl := by omega
    clear g1 hd1 hb1 hc1
    go_enter Tryd.func6, Tryd.ntmps6
    go_wp2
    go_ret
    exact ⟨rfl, Below.refl _ _⟩
  by_cases g2 : cl ≤ 2147483647
  rotate_left
  · have g : 2147483647 < cl := by omega
    clear g2 hd1 hb1 hc1
    go_enter Tryd.func6, Tryd.ntmps6
    go_wp2
    go_ret
    exact ⟨rfl, Below.refl _ _⟩
  by_cases g3 : dm ≤ 2000
  rotate_left
  · have g : 2000 < dm := by omega
    clear g3 hd1 hb1 hc1
    go_enter Tryd.func6, Tryd.ntmps6
    go_wp2
    go_ret
    exact ⟨rfl, Below.refl _ _⟩
  by_cases g4 : 0 ≤ x
  rotate_left
  · have g : x < 0 := by omega
    clear g4 hd1 hb1 hc1
    go_enter Tryd.func6, Tryd.ntmps6
    go_wp2
    go_ret
    exact ⟨rfl, Below.refl _ _⟩
  by_cases g5 : 0 ≤ y
  rotate_left
  · have g : y < 0 := by omega
    clear g5 hd1 hb1 hc1
    go_enter Tryd.func6, Tryd.ntmps6
    go_wp2
    go_ret
    exact ⟨rfl, Below.refl _ _⟩
  by_cases g6 : x ≤ (dm : Int)
  rotate_left
  · have g : (dm : Int) < x := by omega
    clear g6 hd1 hb1 hc1
    go_enter Tryd.func6, Tryd.ntmps6
    go_wp2
    go_ret
    exact ⟨rfl, Below.refl _ _⟩
  by_cases g7 : y ≤ (dm : Int)
  rotate_left
  · have g : (dm : Int) < y := by omega
    clear g7 hd1 hb1 hc1
    go_enter Tryd.func6, Tryd.ntmps6
    go_wp2
    go_ret
    exact ⟨rfl, Below.refl _ _⟩
  by_cases g8 : x + (bl : Int) ≤ (dm : Int)
  rotate_left
  · have g : (dm : Int) < x + (bl : Int) := by omega
    clear g8 hd1 hb1 hc1
    go_enter Tryd.func6, Tryd.ntmps6
    go_wp2
    go_ret
    exact ⟨rfl, Below.refl _ _⟩
  by_cases g9 : y + (cl : Int) ≤ (dm : Int)
  rotate_left
  · have g : (dm : Int) < y + (cl : Int) := by omega
    clear g9 hd1 hb1 hc1
    go_enter Tryd.func6, Tryd.ntmps6
    go_wp2
    go_ret
    exact ⟨rfl, Below.refl _ _⟩
  obtain ⟨a, rfl⟩ := Int.eq_ofNat_of_zero_le g4
  obtain ⟨o, rfl⟩ := Int.eq_ofNat_of_zero_le g5
  exact wa_walk dA dm dc _ bA bl bc _ cA cl cc _ a o w hd1 hb1 hc1 g3 (by omega) (by omega)
end Go.Proofs.YtnkhfdnahnphdaaDoor
