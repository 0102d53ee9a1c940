/- The walk of compressXattrName: the first of the prefixes that a name begins with. -/
import Derived.Test.YtjpahogldfmaeabDoorRows
import Derived.Test.YtjpahogldfmaeabDoorRd
import Derived.Test.YtjpahogldfmaeabDoorLd
import Derived.Test.YtjpahogldfmaeabDoorNpPlain
import Derived.Laws.Rows
import Derived.WalkSmall
import Derived.WalkKit
import Derived.ProofKit
import Derived.OpenShut
import Derived.Lib.Hide
import Derived.LoopTactic
import Derived.BigQuiet
import Derived.Deep.QuietTactic
import Derived.WalkSpells
import Derived.KernelRfl
namespace Go.Proofs.YtjpahogldfmaeabDoor
open Go.ChangeShapes Go.WideShapes Go.ChangeAt Go.RowKit Go.Rd

theorem has_any (s p : ByteArray) (w : World) :
    Calls Tryd.prog 25 #[.string s, .string p] w fun e w' => e = .returned (.bool (hasP s p)) ∧ w = w' := by
  by_cases h : p.size ≤ s.size
  · have h' : hasP s p = ((s.extract 0 p.size).toList == p.toList) := by simp [hasP, h]
    rw [h']
    clear h'
    go_enter Tryd.func25, Tryd.ntmps25
    go_wp2
    go_ret
    exact ⟨rfl, rfl⟩
  · have h' : hasP s p = false := by simp [hasP, h]
    rw [h']
    clear h'
    go_enter Tryd.func25, Tryd.ntmps25
    go_wp2
    go_ret
    exact ⟨rfl, rfl⟩

theorem hasPrefix_any (s p : ByteArray) (w : World) :
    Calls Tryd.prog 24 #[.string s, .string p] w fun e w' => e = .returned (.bool (hasP s p)) ∧ w = w' := by
  go_enter Tryd.func24, Tryd.ntmps24
  go_wp2_with (go_at_call 25; refine (has_any _ _ _).mono ?_; rintro e w' ⟨rfl, rfl⟩)
  go_ret
  exact ⟨rfl, rfl⟩

theorem begins_any (s p : ByteArray) (w : World) :
    Calls Tryd.prog 18 #[.string s, .string p] w fun e w' => e = .returned (.bool (hasP s p)) ∧ w = w' := by
  by_cases h : p.size ≤ s.size
  · have h' : hasP s p = ((s.extract 0 p.size).toList == p.toList) := by simp [hasP, h]
    rw [h']
    clear h'
    go_enter Tryd.func18, Tryd.ntmps18
    go_wp2
    go_ret
    exact ⟨rfl, rfl⟩
  · have h' : hasP s p = false := by simp [hasP, h]
    rw [h']
    clear h'
    go_enter Tryd.func18, Tryd.ntmps18
    go_wp2
    go_ret
    exact ⟨rfl, rfl⟩

/-- The table's cells. -/
def tab : Array Value := (pairCells prefs).toArray

theorem tab_i0 (w : World) : (Instr.index 64 (.agg tab) (.int .i64 0)).run Tryd.prog w = .ok (.agg #[.int .u8 prefs[0].1, .string (strB prefs[0].2)]) w := by kernel_rfl
theorem tab_i1 (w : World) : (Instr.index 64 (.agg tab) (.int .i64 1)).run Tryd.prog w = .ok (.agg #[.int .u8 prefs[1].1, .string (strB prefs[1].2)]) w := by kernel_rfl
theorem tab_i2 (w : World) : (Instr.index 64 (.agg tab) (.int .i64 2)).run Tryd.prog w = .ok (.agg #[.int .u8 prefs[2].1, .string (strB prefs[2].2)]) w := by kernel_rfl
theorem tab_i3 (w : World) : (Instr.index 64 (.agg tab) (.int .i64 3)).run Tryd.prog w = .ok (.agg #[.int .u8 prefs[3].1, .string (strB prefs[3].2)]) w := by kernel_rfl
theorem tab_i4 (w : World) : (Instr.index 64 (.agg tab) (.int .i64 4)).run Tryd.prog w = .ok (.agg #[.int .u8 prefs[4].1, .string (strB prefs[4].2)]) w := by kernel_rfl
theorem tab_i5 (w : World) : (Instr.index 64 (.agg tab) (.int .i64 5)).run Tryd.prog w = .ok (.agg #[.int .u8 prefs[5].1, .string (strB prefs[5].2)]) w := by kernel_rfl
theorem tab_i6 (w : World) : (Instr.index 64 (.agg tab) (.int .i64 6)).run Tryd.prog w = .ok (.agg #[.int .u8 prefs[6].1, .string (strB prefs[6].2)]) w := by kernel_rfl
theorem tab_index (k : Nat) (x : Int × List UInt8) (h : prefs[k]? = some x) (w : World) :
    (Instr.index 64 (.agg tab) (.int .i64 (k : Int))).run Tryd.prog w = .ok (.agg #[.int .u8 x.1, .string (strB x.2)]) w := by
  match k, h with
  | 0, h => obtain rfl := Option.some.inj h; exact tab_i0 w
  | 1, h => obtain rfl := Option.some.inj h; exact tab_i1 w
  | 2, h => obtain rfl := Option.some.inj h; exact tab_i2 w
  | 3, h => obtain rfl := Option.some.inj h; exact tab_i3 w
  | 4, h => obtain rfl := Option.some.inj h; exact tab_i4 w
  | 5, h => obtain rfl := Option.some.inj h; exact tab_i5 w
  | 6, h => obtain rfl := Option.some.inj h; exact tab_i6 w
  | n + 7, h => simp [prefs] at h

def CompRel (s : ByteArray) (B : Nat) (w : World) (R : Int × ByteArray) (v7 : Value) (wr : World) : Prop :=
  ∃ k : Nat, k ≤ 7 ∧ v7 = .int .i64 k ∧ Below B w wr ∧ Hid (pick s (prefs.drop k) = R)

set_option maxHeartbeats 1000000 in
theorem compress_any (s : ByteArray) (w : World) (hs : s.size ≤ maxLen) (ty : TypeId) (fr : Nat × Nat) (hT : w.heap[0]? = some (.cells tab ty fr)) (R : Int × ByteArray) (hR : Hid (pick s prefs = R)) :
    Calls Tryd.prog 21 #[.string s] w fun e w' => e = .returned (.tuple #[.int .u8 R.1, .string R.2]) ∧ Below w.heap.size w w' := by
  go_enter Tryd.func21, Tryd.ntmps21
  go_wp2_with (refine wpList_load_row rfl 64 _ rfl 0 rfl ty tab fr _ hT Tryd.underlying64 rfl (by kernel_rfl) ?_)
  go_loopw [7] (fun v7 wr => CompRel s w.heap.size w R v7 wr) (fun v7 _ => 7 - (intOf v7).toNat)
  case atStart => exact ⟨0, by omega, rfl, Below.refl _ _, hR⟩
  case round =>
    obtain ⟨k, hk, rfl, hb, H⟩ := hrel
    by_cases hlt : k < 7
    · obtain ⟨x, hx⟩ : ∃ x, prefs[k]? = some x := ⟨prefs[k]'(by simpa [prefs] using hlt), List.getElem?_eq_getElem _⟩
      have hi := tab_index k x hx
      have hd : prefs.drop k = x :: prefs.drop (k + 1) := by
        obtain ⟨h1, h2⟩ := List.getElem?_eq_some_iff.1 hx
        rw [← h2]; exact List.drop_eq_getElem_cons h1
      have h := H.out
      rw [hd] at h
      obtain ⟨i, p⟩ := x
      simp only at hi
      have HX := Lib.hid h
      clear hx hd h H
      generalize hp : strB p = q at *
      have hle : hasP s q = true → q.size ≤ s.size := fun h => by
        simp only [hasP, Bool.and_eq_true, decide_eq_true_eq] at h; exact h.1
      have hs' := hs
      unfold maxLen at hs'
      by_cases hh : hasP s q = true
      · have hq := hle hh
        clear hle
        have h := HX.out
        rw [pick, hp, if_pos hh] at h
        subst h
        go_wp2_with (go_at_call 24; refine (hasPrefix_any _ _ _).mono ?_; rw [hh]; rintro e w' ⟨rfl, rfl⟩)
        go_quiet (fail)
        go_wp2
        go_ret2
        exact ⟨rfl, below_drewN (hb.alloc hb.size _) _⟩
      · have hh' : hasP s q = false := by simpa using hh
        have h := HX.out
        rw [pick, hp, if_neg hh] at h
        have HY := Lib.hid h
        clear hle h HX
        go_wp2_with (go_at_call 24; refine (hasPrefix_any _ _ _).mono ?_; rw [hh']; rintro e w' ⟨rfl, rfl⟩)
        go_roundw
        case rel => exact ⟨k + 1, by omega, by go_num, hb.alloc hb.size _, HY⟩
        case measure => simp [intOf]; omega
    · obtain rfl : k = 7 := by omega
      have h := H.out
      rw [List.drop_of_length_le (by simp [prefs]), pick] at h
      subst h
      clear H
      go_wp2
      go_ret2
      exact ⟨rfl, hb⟩

end Go.Proofs.YtjpahogldfmaeabDoor
