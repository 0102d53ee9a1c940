/- The walks of FnNameParts. -/
import Derived.Test.YtjpahogldfmaeaaDoorRows
import Derived.Test.YtjpahogldfmaeaaDoorRd
import Derived.Test.YtjpahogldfmaeaaDoorLd
import Derived.Test.YtjpahogldfmaeaaDoorNaWalk
import Derived.Laws.Rows
import Derived.Laws.Concat
import Derived.WalkSmall
import Derived.WalkKit
import Derived.ProofKit
import Derived.OpenShut
import Derived.Lib.Hide
import Derived.LoopTactic
import Derived.BigQuiet
import Derived.Deep.QuietTactic
import Derived.WalkSpells
import Derived.KernelRfl
namespace Go.Proofs.YtjpahogldfmaeaaDoor
open Go.ChangeShapes Go.WideShapes Go.ChangeAt Go.RowKit Go.Rd

theorem door_comp (s : ByteArray) (w : World) (hs : s.size ≤ maxLen) (ty : TypeId) (fr : Nat × Nat) (hT : w.heap[0]? = some (.cells tab ty fr)) (R : Int × ByteArray) (hR : Hid (pick s prefs = R)) :
    Calls Tryd.prog 7 #[.string s] w fun e w' => e = .returned (.tuple #[.int .u8 R.1, .string R.2]) ∧ Below w.heap.size w w' := by
  go_enter Tryd.func7, Tryd.ntmps7
  go_wp2_with (go_at_call 11; refine (compress_any _ _ hs ty fr hT R hR).mono ?_; rintro e w' ⟨rfl, hb⟩)
  go_ret2
  exact ⟨rfl, hb⟩
theorem impl_comp (s : ByteArray) (w : World) (hs : s.size ≤ maxLen) (ty : TypeId) (fr : Nat × Nat) (hT : w.heap[0]? = some (.cells tab ty fr)) (R : Int × ByteArray) (hR : Hid (pick s prefs = R)) :
    Calls Tryd.prog 4 #[.string s] w fun e w' => e = .returned (.tuple #[.int .u8 R.1, .string R.2]) ∧ Below w.heap.size w w' := by
  go_enter Tryd.func4, Tryd.ntmps4
  go_wp2_with (go_at_call 7; refine (door_comp _ _ hs ty fr hT R hR).mono ?_; rintro e w' ⟨rfl, hb⟩)
  go_ret2
  exact ⟨rfl, hb⟩

theorem prefix_0 (w : World) : Calls Tryd.prog 8 #[.int .u64 2] w fun e w' => e = .returned (.tuple #[.string (strB prefs[0].2), .bool true]) ∧ w = w' := by
  go_enter Tryd.func8, Tryd.ntmps8
  go_wp2
  go_ret2
  exact ⟨rfl, rfl⟩
theorem prefix_1 (w : World) : Calls Tryd.prog 8 #[.int .u64 3] w fun e w' => e = .returned (.tuple #[.string (strB prefs[1].2), .bool true]) ∧ w = w' := by
  go_enter Tryd.func8, Tryd.ntmps8
  go_wp2
  go_ret2
  exact ⟨rfl, rfl⟩
theorem prefix_2 (w : World) : Calls Tryd.prog 8 #[.int .u64 8] w fun e w' => e = .returned (.tuple #[.string (strB prefs[2].2), .bool true]) ∧ w = w' := by
  go_enter Tryd.func8, Tryd.ntmps8
  go_wp2
  go_ret2
  exact ⟨rfl, rfl⟩
theorem prefix_3 (w : World) : Calls Tryd.prog 8 #[.int .u64 7] w fun e w' => e = .returned (.tuple #[.string (strB prefs[3].2), .bool true]) ∧ w = w' := by
  go_enter Tryd.func8, Tryd.ntmps8
  go_wp2
  go_ret2
  exact ⟨rfl, rfl⟩
theorem prefix_4 (w : World) : Calls Tryd.prog 8 #[.int .u64 1] w fun e w' => e = .returned (.tuple #[.string (strB prefs[4].2), .bool true]) ∧ w = w' := by
  go_enter Tryd.func8, Tryd.ntmps8
  go_wp2
  go_ret2
  exact ⟨rfl, rfl⟩
theorem prefix_5 (w : World) : Calls Tryd.prog 8 #[.int .u64 4] w fun e w' => e = .returned (.tuple #[.string (strB prefs[5].2), .bool true]) ∧ w = w' := by
  go_enter Tryd.func8, Tryd.ntmps8
  go_wp2
  go_ret2
  exact ⟨rfl, rfl⟩
theorem prefix_6 (w : World) : Calls Tryd.prog 8 #[.int .u64 6] w fun e w' => e = .returned (.tuple #[.string (strB prefs[6].2), .bool true]) ∧ w = w' := by
  go_enter Tryd.func8, Tryd.ntmps8
  go_wp2
  go_ret2
  exact ⟨rfl, rfl⟩
theorem prefix_any (k : Nat) (x : Int × List UInt8) (h : prefs[k]? = some x) (w : World) : Calls Tryd.prog 8 #[.int .u64 x.1] w fun e w' => e = .returned (.tuple #[.string (strB x.2), .bool true]) ∧ w = w' := by
  match k, h with
  | 0, h => obtain rfl := Option.some.inj h; exact prefix_0 w
  | 1, h => obtain rfl := Option.some.inj h; exact prefix_1 w
  | 2, h => obtain rfl := Option.some.inj h; exact prefix_2 w
  | 3, h => obtain rfl := Option.some.inj h; exact prefix_3 w
  | 4, h => obtain rfl := Option.some.inj h; exact prefix_4 w
  | 5, h => obtain rfl := Option.some.inj h; exact prefix_5 w
  | 6, h => obtain rfl := Option.some.inj h; exact prefix_6 w
  | n + 7, h => simp [prefs] at h

theorem idx_cell {w : World} {g k : Nat} {ty : TypeId} {fr : Nat × Nat} {x : Int × List UInt8} (hg : w.heap[g]? = some (.cells #[.int .u64 2, .int .u64 3, .int .u64 8, .int .u64 7, .int .u64 1, .int .u64 4, .int .u64 6] ty fr)) (h : prefs[k]? = some x) :
    w.cell? ⟨g, k, none⟩ = some (.int .u64 x.1) := by
  rw [cell_of hg]
  match k, h with
  | 0, h => obtain rfl := Option.some.inj h; rfl
  | 1, h => obtain rfl := Option.some.inj h; rfl
  | 2, h => obtain rfl := Option.some.inj h; rfl
  | 3, h => obtain rfl := Option.some.inj h; rfl
  | 4, h => obtain rfl := Option.some.inj h; rfl
  | 5, h => obtain rfl := Option.some.inj h; rfl
  | 6, h => obtain rfl := Option.some.inj h; rfl
  | n + 7, h => simp [prefs] at h

def SpecRel (s : ByteArray) (B : Nat) (w : World) (R : Int × ByteArray) (v10 : Value) (wr : World) : Prop :=
  ∃ k : Nat, k ≤ 7 ∧ v10 = .int .i64 k ∧ Below B w wr ∧ Hid (pick s (prefs.drop k) = R)

set_option maxHeartbeats 1000000 in
theorem spec_any (s : ByteArray) (w : World) (hs : s.size ≤ maxLen) (R : Int × ByteArray) (hR : Hid (pick s prefs = R)) :
    Calls Tryd.prog 5 #[.string s] w fun e w' => e = .returned (.tuple #[.int .u64 R.1, .string R.2]) ∧ Below w.heap.size w w' := by
  go_enter Tryd.func5, Tryd.ntmps5
  go_wp2_with fail
  obtain ⟨W0, hW0⟩ : ∃ W0, w.alloc (.cells #[.int .u64 2, .int .u64 3, .int .u64 8, .int .u64 7, .int .u64 1, .int .u64 4, .int .u64 6] 24) = W0 := ⟨_, rfl⟩
  have hg0 : W0.heap[w.heap.size]? = some (.cells #[.int .u64 2, .int .u64 3, .int .u64 8, .int .u64 7, .int .u64 1, .int .u64 4, .int .u64 6] 24 (0, 0)) := by rw [← hW0]; exact alloc_new _ _
  have hb0 : Below w.heap.size w W0 := by rw [← hW0]; exact (Below.refl _ _).alloc (Nat.le_refl _) _
  have hz0 : w.heap.size < W0.heap.size := lt_of_heap hg0
  rw [hW0]
  have HG := Lib.hid hg0
  clear hW0 hg0
  go_loopw [10] (fun v10 wr => SpecRel s W0.heap.size W0 R v10 wr) (fun v10 _ => 7 - (intOf v10).toNat)
  case atStart => exact ⟨0, by omega, rfl, Below.refl _ _, hR⟩
  case round =>
    obtain ⟨k, hk, rfl, hb, H⟩ := hrel
    by_cases hlt : k < 7
    · obtain ⟨x, hx⟩ : ∃ x, prefs[k]? = some x := ⟨prefs[k]'(by simpa [prefs] using hlt), List.getElem?_eq_getElem _⟩
      have hc : wr.cell? ⟨w.heap.size, k, none⟩ = some (.int .u64 x.1) := (hb.cell (p := ⟨w.heap.size, k, none⟩) hz0).trans (idx_cell HG.out hx)
      have hp := fun W => prefix_any k x hx W
      have hd : prefs.drop k = x :: prefs.drop (k + 1) := by
        obtain ⟨h1, h2⟩ := List.getElem?_eq_some_iff.1 hx
        rw [← h2]; exact List.drop_eq_getElem_cons h1
      have h := H.out
      rw [hd] at h
      obtain ⟨i, p⟩ := x
      simp only at hc hp
      have HX := Lib.hid h
      have HP := Lib.hid hp
      clear hx hd h H hp
      generalize hp : strB p = q at *
      have hle : hasP s q = true → q.size ≤ s.size := fun h => by
        simp only [hasP, Bool.and_eq_true, decide_eq_true_eq] at h; exact h.1
      have hs' := hs
      unfold maxLen at hs'
      by_cases hh : hasP s q = true
      · have hq := hle hh
        clear hle
        have h := HX.out
        rw [pick, hp, if_pos hh] at h
        subst h
        go_wp2_with (first | (go_at_call 8; refine (HP.out _).mono ?_; rintro e w' ⟨rfl, rfl⟩) | (go_at_call 9; refine (begins_any _ _ _).mono ?_; rw [hh]; rintro e w' ⟨rfl, rfl⟩))
        go_quiet (fail)
        go_wp2
        go_ret2
        exact ⟨rfl, below_drewN (hb0.trans (hb.mono (by omega))) _⟩
      · have hh' : hasP s q = false := by simpa using hh
        have h := HX.out
        rw [pick, hp, if_neg hh] at h
        have HY := Lib.hid h
        clear hle h HX
        go_wp2_with (first | (go_at_call 8; refine (HP.out _).mono ?_; rintro e w' ⟨rfl, rfl⟩) | (go_at_call 9; refine (begins_any _ _ _).mono ?_; rw [hh']; rintro e w' ⟨rfl, rfl⟩))
        go_roundw
        case rel => exact ⟨k + 1, by omega, by go_num, hb, HY⟩
        case measure => simp [intOf]; omega
    · obtain rfl : k = 7 := by omega
      have h := H.out
      rw [List.drop_of_length_le (by simp [prefs]), pick] at h
      subst h
      clear H
      go_wp2
      go_ret2
      exact ⟨rfl, hb0.trans (hb.mono (by omega))⟩

def DecRel (i : Int) (r : ByteArray) (B : Nat) (w : World) (R : ByteArray) (v8 : Value) (wr : World) : Prop :=
  ∃ k : Nat, k ≤ 7 ∧ v8 = .int .i64 k ∧ Below B w wr ∧ Hid (unpick i r (prefs.drop k) = R)

theorem prefs_len : ∀ x ∈ prefs, (strB x.2).size ≤ 30 := by decide

set_option maxHeartbeats 1000000 in
theorem dec_any (i : Int) (r : ByteArray) (w : World) (hr : r.size ≤ 2147483647) (ty : TypeId) (fr : Nat × Nat) (hT : w.heap[0]? = some (.cells tab ty fr)) (R : ByteArray) (hR : Hid (unpick i r prefs = R)) :
    Calls Tryd.prog 12 #[.int .u8 i, .string r] w fun e w' => e = .returned (.string R) ∧ Below w.heap.size w w' := by
  go_enter Tryd.func12, Tryd.ntmps12
  go_wp2_with (refine wpList_load_row rfl 34 _ rfl 0 rfl ty tab fr _ hT Tryd.underlying34 rfl (by kernel_rfl) ?_)
  go_loopw [8] (fun v8 wr => DecRel i r w.heap.size w R v8 wr) (fun v8 _ => 7 - (intOf v8).toNat)
  case atStart => exact ⟨0, by omega, rfl, Below.refl _ _, hR⟩
  case round =>
    obtain ⟨k, hk, rfl, hb, H⟩ := hrel
    by_cases hlt : k < 7
    · obtain ⟨x, hx⟩ : ∃ x, prefs[k]? = some x := ⟨prefs[k]'(by simpa [prefs] using hlt), List.getElem?_eq_getElem _⟩
      have hi := tab_index k x hx
      have hd : prefs.drop k = x :: prefs.drop (k + 1) := by
        obtain ⟨h1, h2⟩ := List.getElem?_eq_some_iff.1 hx
        rw [← h2]; exact List.drop_eq_getElem_cons h1
      have h := H.out
      rw [hd] at h
      have hq30 := prefs_len x (List.mem_of_getElem? hx)
      obtain ⟨j, p⟩ := x
      simp only at hi hq30
      have HX := Lib.hid h
      clear hx hd h H
      generalize hp : strB p = q at *
      by_cases hh : i = j
      · subst hh
        have h := HX.out
        rw [unpick, hp, if_pos rfl] at h
        have HY := Lib.hid h
        clear h HX
        go_wp2
        go_ret
        exact ⟨by show Ending.returned (Value.string (q ++ r)) = _; rw [HY.out], hb.alloc hb.size _⟩
      · have hh' : (i == j) = false := by simpa using hh
        have h := HX.out
        rw [unpick, hp, if_neg hh] at h
        have HY := Lib.hid h
        clear h HX hh
        go_wp2
        go_roundw
        case rel => exact ⟨k + 1, by omega, by go_num, hb.alloc hb.size _, HY⟩
        case measure => simp [intOf]; omega
    · obtain rfl : k = 7 := by omega
      have h := H.out
      rw [List.drop_of_length_le (by simp [prefs]), unpick] at h
      subst h
      clear H
      go_wp2
      go_ret
      exact ⟨rfl, hb⟩

theorem door_dec (i : Int) (r : ByteArray) (w : World) (hr : r.size ≤ 2147483647) (ty : TypeId) (fr : Nat × Nat) (hT : w.heap[0]? = some (.cells tab ty fr)) (R : ByteArray) (hR : Hid (unpick i r prefs = R)) :
    Calls Tryd.prog 10 #[.int .u8 i, .string r] w fun e w' => e = .returned (.string R) ∧ Below w.heap.size w w' := by
  go_enter Tryd.func10, Tryd.ntmps10
  go_wp2_with (go_at_call 12; refine (dec_any _ _ _ hr ty fr hT R hR).mono ?_; rintro e w' ⟨rfl, hb⟩)
  go_ret
  exact ⟨rfl, hb⟩
theorem impl_dec (i : Int) (r : ByteArray) (w : World) (hr : r.size ≤ 2147483647) (ty : TypeId) (fr : Nat × Nat) (hT : w.heap[0]? = some (.cells tab ty fr)) (R : ByteArray) (hR : Hid (unpick i r prefs = R)) :
    Calls Tryd.prog 6 #[.int .u8 i, .string r] w fun e w' => e = .returned (.string R) ∧ Below w.heap.size w w' := by
  go_enter Tryd.func6, Tryd.ntmps6
  go_wp2_with (go_at_call 10; refine (door_dec _ _ _ hr ty fr hT R hR).mono ?_; rintro e w' ⟨rfl, hb⟩)
  go_ret
  exact ⟨rfl, hb⟩

set_option maxHeartbeats 1000000 in
theorem np_walk (w : World) (s : ByteArray) (hs : s.size ≤ maxLen) (ty : TypeId) (fr : Nat × Nat) (hT : w.heap[0]? = some (.cells tab ty fr)) :
    Calls Tryd.prog 3 #[.string s] w fun e w' => e = .returned (.bool true) ∧ Below w.heap.size w w' := by
  have hs' := hs
  unfold maxLen at hs'
  by_cases hbig : 2147483647 < s.size
  · go_enter Tryd.func3, Tryd.ntmps3
    go_wp2
    go_ret
    exact ⟨rfl, Below.refl _ _⟩
  obtain ⟨R, hR⟩ : ∃ R, pick s prefs = R := ⟨_, rfl⟩
  have hrg := pick_range s
  have hbk := pick_back s
  have hrs := pick_rest s
  rw [hR] at hrg hbk hrs
  obtain ⟨i, r⟩ := R
  simp only at hrg hbk hrs
  obtain ⟨r0, r1⟩ := hrg
  have H0 : 0 < w.heap.size := lt_of_heap hT
  have HR := Lib.hid hR
  have HB := Lib.hid hbk
  have HS := Lib.hid hrs
  have HT := Lib.hid hT
  clear hR hbk hrs hT
  have hv : ((s.size : Int) == 0) = true ∨ (i != 0) = true ∨ ((s.size : Int) == 0) = false ∧ (i != 0) = false ∧ r.toList.isEmpty = false := by
    by_cases h0 : s.size = 0
    · exact .inl (by simp [h0])
    by_cases hi : i = 0
    · have hr := HS.out hi
      refine .inr (.inr ⟨beq_eq_false_iff_ne.2 (by omega), by simp [hi], ?_⟩)
      rw [hr, ByteArray.toList_eq]
      simp
      intro h
      apply h0
      show s.data.size = 0
      rw [h]; rfl
    · exact .inr (.inl (by simpa using hi))
  have hr : r.size ≤ 2147483647 := by
    have h := pick_size s
    rw [HR.out] at h
    simp only at h
    omega
  have HV := Lib.hid hv
  clear hv
  go_enter Tryd.func3, Tryd.ntmps3
  go_wp2_with fail
  refine (impl_comp s w hs ty fr HT.out (i, r) HR).mono ?_
  rintro e w1 ⟨rfl, hb1⟩
  go_wp2_with fail
  refine (spec_any s w1 hs (i, r) HR).mono ?_
  rintro e w2 ⟨rfl, hb2⟩
  have hb : Below w.heap.size w w2 := hb1.trans (hb2.mono hb1.size)
  have hT2 : w2.heap[0]? = some (.cells tab ty fr) := (hb.block 0 H0).trans HT.out
  have HT2 := Lib.hid hT2
  clear hT2
  go_wp2_with fail
  refine (impl_dec i r w2 hr ty fr HT2.out s HB).mono ?_
  rintro e w3 ⟨rfl, hb3⟩
  have hbb : Below w.heap.size w w3 := hb.trans (hb3.mono hb.size)
  rcases HV.out with h | h | ⟨h1, h2, h3⟩
  · go_wp2_with fail
    all_goals (go_ret; exact ⟨rfl, hbb⟩)
  · go_wp2_with fail
    all_goals (go_ret; exact ⟨rfl, hbb⟩)
  · go_wp2_with fail
    all_goals (go_ret; exact ⟨rfl, hbb⟩)


theorem pair_struct : PairStruct Tryd.prog 34 33 7 :=
  ⟨Tryd.underlying34, by kernel_rfl, by kernel_rfl, _, _, Tryd.underlying33, by kernel_rfl, by kernel_rfl, by kernel_rfl, by kernel_rfl, by kernel_rfl, by kernel_rfl⟩

theorem np_main (w : World) (s : ByteArray) (hs : s.size ≤ maxLen) (hL : laidMetH Tryd.prog Rows.fnNamePartsRow.laid w) :
    Calls Tryd.prog 3 #[.string s] w fun e w' => e = .returned (.bool true) ∧ Below w.heap.size w w' := by
  obtain ⟨ty, fr, hT⟩ := pairs_of_head (l := prefs) (rest := []) (g := 0) (t := 34) (e := 33) (n := 7) (by kernel_rfl) (by kernel_rfl) pair_struct hL
  exact np_walk w s hs ty fr hT

end Go.Proofs.YtjpahogldfmaeaaDoor
