/- The walks of FnNameParts. -/
import Derived.Test.YtjpahogldfmaeabDoorRows
import Derived.Test.YtjpahogldfmaeabDoorRd
import Derived.Test.YtjpahogldfmaeabDoorLd
import Derived.Test.YtjpahogldfmaeabDoorNaWalk
import Derived.Laws.Rows
import Derived.Laws.Concat
import Derived.WalkSmall
import Derived.WalkKit
import Derived.ProofKit
import Derived.OpenShut
import Derived.Lib.Hide
import Derived.LoopTactic
import Derived.BigQuiet
import Derived.Deep.QuietTactic
import Derived.WalkSpells
import Derived.KernelRfl
namespace Go.Proofs.YtjpahogldfmaeabDoor
open Go.ChangeShapes Go.WideShapes Go.ChangeAt Go.RowKit Go.Rd

theorem prefix_0 (w : World) : Calls Tryd.prog 17 #[.int .u64 2] w fun e w' => e = .returned (.tuple #[.string (strB prefs[0].2), .bool true]) ∧ w = w' := by
  go_enter Tryd.func17, Tryd.ntmps17
  go_wp2
  go_ret2
  exact ⟨rfl, rfl⟩
theorem prefix_1 (w : World) : Calls Tryd.prog 17 #[.int .u64 3] w fun e w' => e = .returned (.tuple #[.string (strB prefs[1].2), .bool true]) ∧ w = w' := by
  go_enter Tryd.func17, Tryd.ntmps17
  go_wp2
  go_ret2
  exact ⟨rfl, rfl⟩
theorem prefix_2 (w : World) : Calls Tryd.prog 17 #[.int .u64 8] w fun e w' => e = .returned (.tuple #[.string (strB prefs[2].2), .bool true]) ∧ w = w' := by
  go_enter Tryd.func17, Tryd.ntmps17
  go_wp2
  go_ret2
  exact ⟨rfl, rfl⟩
theorem prefix_3 (w : World) : Calls Tryd.prog 17 #[.int .u64 7] w fun e w' => e = .returned (.tuple #[.string (strB prefs[3].2), .bool true]) ∧ w = w' := by
  go_enter Tryd.func17, Tryd.ntmps17
  go_wp2
  go_ret2
  exact ⟨rfl, rfl⟩
theorem prefix_4 (w : World) : Calls Tryd.prog 17 #[.int .u64 1] w fun e w' => e = .returned (.tuple #[.string (strB prefs[4].2), .bool true]) ∧ w = w' := by
  go_enter Tryd.func17, Tryd.ntmps17
  go_wp2
  go_ret2
  exact ⟨rfl, rfl⟩
theorem prefix_5 (w : World) : Calls Tryd.prog 17 #[.int .u64 4] w fun e w' => e = .returned (.tuple #[.string (strB prefs[5].2), .bool true]) ∧ w = w' := by
  go_enter Tryd.func17, Tryd.ntmps17
  go_wp2
  go_ret2
  exact ⟨rfl, rfl⟩
theorem prefix_6 (w : World) : Calls Tryd.prog 17 #[.int .u64 6] w fun e w' => e = .returned (.tuple #[.string (strB prefs[6].2), .bool true]) ∧ w = w' := by
  go_enter Tryd.func17, Tryd.ntmps17
  go_wp2
  go_ret2
  exact ⟨rfl, rfl⟩
theorem prefix_any (k : Nat) (x : Int × List UInt8) (h : prefs[k]? = some x) (w : World) : Calls Tryd.prog 17 #[.int .u64 x.1] w fun e w' => e = .returned (.tuple #[.string (strB x.2), .bool true]) ∧ w = w' := by
  match k, h with
  | 0, h => obtain rfl := Option.some.inj h; exact prefix_0 w
  | 1, h => obtain rfl := Option.some.inj h; exact prefix_1 w
  | 2, h => obtain rfl := Option.some.inj h; exact prefix_2 w
  | 3, h => obtain rfl := Option.some.inj h; exact prefix_3 w
  | 4, h => obtain rfl := Option.some.inj h; exact prefix_4 w
  | 5, h => obtain rfl := Option.some.inj h; exact prefix_5 w
  | 6, h => obtain rfl := Option.some.inj h; exact prefix_6 w
  | n + 7, h => simp [prefs] at h

theorem idx_cell {w : World} {g k : Nat} {ty : TypeId} {fr : Nat × Nat} {x : Int × List UInt8} (hg : w.heap[g]? = some (.cells #[.int .u64 2, .int .u64 3, .int .u64 8, .int .u64 7, .int .u64 1, .int .u64 4, .int .u64 6] ty fr)) (h : prefs[k]? = some x) :
    w.cell? ⟨g, k, none⟩ = some (.int .u64 x.1) := by
  rw [cell_of hg]
  match k, h with
  | 0, h => obtain rfl := Option.some.inj h; rfl
  | 1, h => obtain rfl := Option.some.inj h; rfl
  | 2, h => obtain rfl := Option.some.inj h; rfl
  | 3, h => obtain rfl := Option.some.inj h; rfl
  | 4, h => obtain rfl := Option.some.inj h; rfl
  | 5, h => obtain rfl := Option.some.inj h; rfl
  | 6, h => obtain rfl := Option.some.inj h; rfl
  | n + 7, h => simp [prefs] at h

def SpecRel (s : ByteArray) (B : Nat) (w : World) (R : Int × ByteArray) (v10 : Value) (wr : World) : Prop :=
  ∃ k : Nat, k ≤ 7 ∧ v10 = .int .i64 k ∧ Below B w wr ∧ Hid (pick s (prefs.drop k) = R)

set_option maxHeartbeats 1000000 in
theorem spec_any (s : ByteArray) (w : World) (hs : s.size ≤ maxLen) (R : Int × ByteArray) (hR : Hid (pick s prefs = R)) :
    Calls Tryd.prog 12 #[.string s] w fun e w' => e = .returned (.tuple #[.int .u64 R.1, .string R.2]) ∧ Below w.heap.size w w' := by
  go_enter Tryd.func12, Tryd.ntmps12
  go_wp2_with fail
  obtain ⟨W0, hW0⟩ : ∃ W0, w.alloc (.cells #[.int .u64 2, .int .u64 3, .int .u64 8, .int .u64 7, .int .u64 1, .int .u64 4, .int .u64 6] 36) = W0 := ⟨_, rfl⟩
  have hg0 : W0.heap[w.heap.size]? = some (.cells #[.int .u64 2, .int .u64 3, .int .u64 8, .int .u64 7, .int .u64 1, .int .u64 4, .int .u64 6] 36 (0, 0)) := by rw [← hW0]; exact alloc_new _ _
  have hb0 : Below w.heap.size w W0 := by rw [← hW0]; exact (Below.refl _ _).alloc (Nat.le_refl _) _
  have hz0 : w.heap.size < W0.heap.size := lt_of_heap hg0
  rw [hW0]
  have HG := Lib.hid hg0
  clear hW0 hg0
  go_loopw [10] (fun v10 wr => SpecRel s W0.heap.size W0 R v10 wr) (fun v10 _ => 7 - (intOf v10).toNat)
  case atStart => exact ⟨0, by omega, rfl, Below.refl _ _, hR⟩
  case round =>
    obtain ⟨k, hk, rfl, hb, H⟩ := hrel
    by_cases hlt : k < 7
    · obtain ⟨x, hx⟩ : ∃ x, prefs[k]? = some x := ⟨prefs[k]'(by simpa [prefs] using hlt), List.getElem?_eq_getElem _⟩
      have hc : wr.cell? ⟨w.heap.size, k, none⟩ = some (.int .u64 x.1) := (hb.cell (p := ⟨w.heap.size, k, none⟩) hz0).trans (idx_cell HG.out hx)
      have hp := fun W => prefix_any k x hx W
      have hd : prefs.drop k = x :: prefs.drop (k + 1) := by
        obtain ⟨h1, h2⟩ := List.getElem?_eq_some_iff.1 hx
        rw [← h2]; exact List.drop_eq_getElem_cons h1
      have h := H.out
      rw [hd] at h
      obtain ⟨i, p⟩ := x
      simp only at hc hp
      have HX := Lib.hid h
      have HP := Lib.hid hp
      clear hx hd h H hp
      generalize hp : strB p = q at *
      have hle : hasP s q = true → q.size ≤ s.size := fun h => by
        simp only [hasP, Bool.and_eq_true, decide_eq_true_eq] at h; exact h.1
      have hs' := hs
      unfold maxLen at hs'
      by_cases hh : hasP s q = true
      · have hq := hle hh
        clear hle
        have h := HX.out
        rw [pick, hp, if_pos hh] at h
        subst h
        go_wp2_with (first | (go_at_call 17; refine (HP.out _).mono ?_; rintro e w' ⟨rfl, rfl⟩) | (go_at_call 18; refine (begins_any _ _ _).mono ?_; rw [hh]; rintro e w' ⟨rfl, rfl⟩))
        go_quiet (fail)
        go_wp2
        go_ret2
        exact ⟨rfl, below_drewN (hb0.trans (hb.mono (by omega))) _⟩
      · have hh' : hasP s q = false := by simpa using hh
        have h := HX.out
        rw [pick, hp, if_neg hh] at h
        have HY := Lib.hid h
        clear hle h HX
        go_wp2_with (first | (go_at_call 17; refine (HP.out _).mono ?_; rintro e w' ⟨rfl, rfl⟩) | (go_at_call 18; refine (begins_any _ _ _).mono ?_; rw [hh']; rintro e w' ⟨rfl, rfl⟩))
        go_roundw
        case rel => exact ⟨k + 1, by omega, by go_num, hb, HY⟩
        case measure => simp [intOf]; omega
    · obtain rfl : k = 7 := by omega
      have h := H.out
      rw [List.drop_of_length_le (by simp [prefs]), pick] at h
      subst h
      clear H
      go_wp2
      go_ret2
      exact ⟨rfl, hb0.trans (hb.mono (by omega))⟩

def DecRel (i : Int) (r : ByteArray) (B : Nat) (w : World) (R : ByteArray) (v8 : Value) (wr : World) : Prop :=
  ∃ k : Nat, k ≤ 7 ∧ v8 = .int .i64 k ∧ Below B w wr ∧ Hid (unpick i r (prefs.drop k) = R)

theorem pair_struct : PairStruct Tryd.prog 64 63 7 :=
  ⟨Tryd.underlying64, by kernel_rfl, by kernel_rfl, _, _, Tryd.underlying63, by kernel_rfl, by kernel_rfl, by kernel_rfl, by kernel_rfl, by kernel_rfl, by kernel_rfl⟩

end Go.Proofs.YtjpahogldfmaeabDoor
