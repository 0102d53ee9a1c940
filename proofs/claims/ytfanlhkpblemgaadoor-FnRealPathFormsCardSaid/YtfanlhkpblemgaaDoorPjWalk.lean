/- The walks of the specification's paths: Joined. -/
import Derived.Test.YtfanlhkpblemgaaDoorPcWalk
namespace Go.Proofs.YtfanlhkpblemgaaDoor
open Go.ChangeShapes Go.WideShapes Go.ChangeAt Go.RowKit Go.Rd Go.Pt

theorem cat_data (a b : ByteArray) : (a ++ b).data.toList = a.data.toList ++ b.data.toList := by simp [ByteArray.data_append]
theorem eqB {a b : ByteArray} (h : a.data.toList = b.data.toList) : a = b := by
  have := congrArg strB h
  exact this

def Joins (W : List ByteArray) (M : Nat) (w : World) (v3 v8 : Value) (wr : World) : Prop :=
  ∃ (r : ByteArray) (j : Nat), v3 = .string r ∧ v8 = .int .i64 j ∧ j ≤ W.length ∧ r.size ≤ M ∧ (∃ n, w.drewN n = wr) ∧ Hid (r.data.toList = inter ((W.map (·.data.toList)).take j))

set_option maxHeartbeats 1000000 in
theorem joined_some (W : List ByteArray) (g cap B M : Nat) (w : World) (hown : w.ownsRow B 9 1 (.slice (some ⟨g, 0, none⟩) W.length cap) W.length (W.map Value.string)) (hM : M ≤ 8000) (ht : Hid (tot (W.map (·.data.toList)) ≤ M)) :
    Calls Tryd.prog 33 #[.slice (some ⟨g, 0, none⟩) W.length cap] w fun e w' => e = .returned (.string (strB (inter (W.map (·.data.toList))))) ∧ ∃ n, w.drewN n = w' := by
  have hWl : W.length ≤ 8000 := by
    have := tot_length (W.map (·.data.toList))
    rw [List.length_map] at this
    exact Nat.le_trans this (Nat.le_trans ht.out hM)
  go_enter Tryd.func33, Tryd.ntmps33
  go_wp2
  go_loopw [3, 4, 5, 8] (fun v3 v4 v5 v8 wr => Joins W M w v3 v8 wr) (fun _ _ _ v8 _ => W.length - (intOf v8).toNat)
  case atStart => exact ⟨⟨#[]⟩, 0, rfl, rfl, by omega, Nat.zero_le _, ⟨0, rfl⟩, Lib.hid (by simp [inter, List.intercalate])⟩
  case round =>
    obtain ⟨r, j, rfl, rfl, hj, hr, ⟨nd, rfl⟩, H⟩ := hrel
    by_cases c1 : j < W.length
    · have hcell : (w.drewN nd).cell? ⟨g, j, none⟩ = some (.string (W[j])) := by
        have := hown.cellAt j (by omega)
        simp [c1] at this
        simpa using this
      have hj' : j < (W.map (·.data.toList)).length := by simpa using c1
      have hx : (W[j]).size ≤ M := by
        rw [size_of]
        exact Nat.le_trans (tot_mem (List.mem_map_of_mem (f := fun x : ByteArray => x.data.toList) (List.getElem_mem c1))) ht.out
      have hnew : (inter ((W.map (·.data.toList)).take (j + 1))).length ≤ M := Nat.le_trans (inter_take_len _ _) ht.out
      by_cases c2 : 0 < j
      · have HN := Lib.hid (show (r ++ ⟨#[47]⟩ ++ W[j]).data.toList = inter ((W.map (·.data.toList)).take (j + 1)) by
          rw [inter_take_more _ _ hj' c2, cat_data, cat_data, H.out]
          simp)
        have hs2 : (r ++ ⟨#[47]⟩ ++ W[j]).size ≤ M := by rw [size_of, HN.out]; exact hnew
        have d1 : decide (0 < j) = true := by simp; omega
        generalize W[j] = x at *
        clear hnew hj'
        go_wp2
        go_roundw
        case rel => exact ⟨_, j + 1, rfl, by go_num, by omega, hs2, ⟨nd, rfl⟩, HN⟩
        case measure => simp [intOf]; omega
      · obtain rfl : j = 0 := by omega
        have hr0 : r = ⟨#[]⟩ := eqB (by rw [H.out]; simp [inter, List.intercalate])
        subst hr0
        have HN := Lib.hid (show (⟨#[]⟩ ++ W[0] : ByteArray).data.toList = inter ((W.map (·.data.toList)).take (0 + 1)) by
          rw [inter_take_one _ hj', cat_data]
          simp)
        have hs2 : (⟨#[]⟩ ++ W[0] : ByteArray).size ≤ M := by rw [size_of, HN.out]; exact hnew
        generalize W[0] = x at *
        clear hnew hj'
        go_wp2
        go_roundw
        case rel => exact ⟨_, 1, rfl, by go_num, by omega, hs2, ⟨nd, rfl⟩, HN⟩
        case measure => simp [intOf]; omega
    · have HN := Lib.hid (show strB (inter (W.map (·.data.toList))) = r from eqB (by
        rw [H.out, List.take_of_length_le (by simp; omega), strB_data]))
      go_wp2
      go_ret
      exact ⟨by rw [HN.out]; rfl, nd, rfl⟩
theorem joined_none (w : World) (v : Value) (hv : v = .slice none 0 0 ∨ ∃ a c, v = .slice (some a) 0 c) :
    Calls Tryd.prog 33 #[v] w fun e w' => e = .returned (.string ⟨#[]⟩) ∧ ∃ n, w.drewN n = w' := by
  rcases hv with rfl | ⟨a, c, rfl⟩
  · go_enter Tryd.func33, Tryd.ntmps33
    go_wp2
    go_loopw [3, 4, 5, 8] (fun v3 v4 v5 v8 wr => v3 = .string ⟨#[]⟩ ∧ v8 = .int .i64 0 ∧ w = wr) (fun _ _ _ _ _ => 0)
    case atStart => exact ⟨rfl, rfl, rfl⟩
    case round =>
      obtain ⟨rfl, rfl, rfl⟩ := hrel
      go_wp2
      go_ret
      exact ⟨rfl, 0, rfl⟩
  · go_enter Tryd.func33, Tryd.ntmps33
    go_wp2
    go_loopw [3, 4, 5, 8] (fun v3 v4 v5 v8 wr => v3 = .string ⟨#[]⟩ ∧ v8 = .int .i64 0 ∧ w = wr) (fun _ _ _ _ _ => 0)
    case atStart => exact ⟨rfl, rfl, rfl⟩
    case round =>
      obtain ⟨rfl, rfl, rfl⟩ := hrel
      go_wp2
      go_ret
      exact ⟨rfl, 0, rfl⟩
theorem joined_any (W : List ByteArray) (B M : Nat) (v : Value) (w : World) (hown : w.ownsRow B 9 1 v W.length (W.map Value.string)) (hM : M ≤ 8000) (ht : Hid (tot (W.map (·.data.toList)) ≤ M)) :
    Calls Tryd.prog 33 #[v] w fun e w' => e = .returned (.string (strB (inter (W.map (·.data.toList))))) ∧ ∃ n, w.drewN n = w' := by
  cases W with
  | nil =>
    refine joined_none w v ?_
    rcases hown.2 with ⟨h, _⟩ | ⟨g', cap', cur, hv, _⟩
    · exact .inl h
    · exact .inr ⟨_, _, hv⟩
  | cons x W =>
    obtain ⟨g, cap, rfl, hg1, hg2⟩ := World.ownsRow.form hown (by simp)
    exact joined_some (x :: W) g cap B M w hown hM ht
end Go.Proofs.YtfanlhkpblemgaaDoor
