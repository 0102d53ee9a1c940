/- FnAttributesFit: the walks of an attribute's room. -/
import Derived.Test.YtjpahogldfmaeabDoorNpWalk
import Derived.Test.YtjpahogldfmaeabDoorSt
import Derived.Laws.Closers25b
import Derived.Lib.QuoteBits
namespace Go.Proofs.YtjpahogldfmaeabDoor
open Go.ChangeShapes Go.WideShapes Go.ChangeAt Go.RowKit Go.Rd

/-- A length, rounded up to a multiple of 4. -/
def up4 (n : Nat) : Nat := (n + 3) / 4 * 4
theorem andNot_three (i : Nat) (h : i < 9223372036854775807) : bits .andNot .i64 (i : Int) 3 = ((i / 4 * 4 : Nat) : Int) := by
  show IntKind.i64.wrap ((BitVec.ofInt 64 (i : Int) &&& ~~~BitVec.ofInt 64 ((3 : Nat) : Int)).toNat : Int) = _
  rw [BitVec.toNat_and, BitVec.toNat_not, ofInt_u64 i (by omega), ofInt_u64 3 (by omega)]
  have e : 2 ^ 64 - 1 - 3 = 18446744073709551612 := by decide
  rw [e, nat_hi64_2, Nat.mod_eq_of_lt (by omega)]
  exact Lib.wrap_i64_small _ (by omega)
theorem up4_bits (n : Nat) (h : n ≤ 2147483647) : bits .andNot .i64 ((n : Int) + 3) 3 = ((up4 n : Nat) : Int) := by
  have := andNot_three (n + 3) (by omega)
  exact this
theorem up4_le (n : Nat) : up4 n ≤ n + 3 := by unfold up4; omega

set_option maxHeartbeats 1000000 in
theorem entry_len (b : Nat) (s : ByteArray) (i : Int) (v : Value) (w : World) (hb : w.heap[b]? = some (.cells #[.string s, .int .u8 i, v] 61 (0, 0))) (hs : s.size ≤ 2147483647) :
    Calls Tryd.prog 22 #[.pointer (some ⟨b, 0, none⟩)] w fun e w' => e = .returned (.int .i64 ((up4 s.size : Nat) + 16)) ∧ w = w' := by
  have hc : w.cell? ⟨b, 0, none⟩ = some (.string s) := (cell_of hb 0).trans rfl
  have hu := up4_bits s.size hs
  have hl := up4_le s.size
  go_enter Tryd.func22, Tryd.ntmps22
  go_wp2
  go_ret
  refine ⟨?_, rfl⟩
  show Ending.returned (Value.int IntKind.i64 _) = _
  congr 2

set_option maxHeartbeats 1000000 in
theorem value_len (b : Nat) (x : Value) (i : Int) (a : Option Addr) (len cap : Nat) (w : World) (hb : w.heap[b]? = some (.cells #[x, .int .u8 i, .slice a len cap] 61 (0, 0))) (hs : len ≤ 2147483647) :
    Calls Tryd.prog 23 #[.pointer (some ⟨b, 0, none⟩)] w fun e w' => e = .returned (.int .i64 ((up4 len : Nat))) ∧ w = w' := by
  have hc : w.cell? ⟨b, 2, none⟩ = some (.slice a len cap) := (cell_of hb 2).trans rfl
  have hu := up4_bits len hs
  go_enter Tryd.func23, Tryd.ntmps23
  go_wp2
  go_ret
  refine ⟨?_, rfl⟩
  rw [← hu]
  rfl

set_option maxHeartbeats 1000000 in
theorem room_any (s : ByteArray) (a : Option Addr) (len cap : Nat) (w : World) (hs : s.size ≤ maxLen) (R : Int × ByteArray) (hR : Hid (pick s prefs = R)) (hr : R.2.size ≤ 2147483647) (hl : len ≤ 2147483647) :
    Calls Tryd.prog 16 #[.agg #[.string s, .slice a len cap]] w fun e w' => e = .returned (.int .i64 (16 + up4 R.2.size + up4 len : Nat)) ∧ Below w.heap.size w w' := by
  go_enter Tryd.func16, Tryd.ntmps16
  go_wp2_with (go_at_call 12; refine (spec_any s _ hs R hR).mono ?_; rintro e w1 ⟨rfl, hb1⟩; have hc := (hb1.cell (p := ⟨w.heap.size, 1, none⟩) (by simp)).trans ((cell_of (alloc_new w (Obj.cells #[Value.string s, Value.slice a len cap] 47)) 1).trans rfl))
  go_ret
  refine ⟨?_, ((Below.refl _ _).alloc (Nat.le_refl _) _).trans (hb1.mono (by simp))⟩
  have e : ((16 + up4 R.2.size + up4 len : Nat) : Int) = 16 + ((R.2.size : Int) + 3) / 4 * 4 + ((len : Int) + 3) / 4 * 4 := by unfold up4; omega
  rw [e]
  rfl
end Go.Proofs.YtjpahogldfmaeabDoor
