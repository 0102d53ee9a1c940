/- The walks of the specification's paths: Rooted, Elements, Joined, Clean. -/
import Derived.Test.YtfanlhkpblemgaaDoorRows
import Derived.Test.YtfanlhkpblemgaaDoorShelf
import Derived.Test.YtfanlhkpblemgaaDoorRd
import Derived.Test.YtfanlhkpblemgaaDoorPcPlain
import Derived.Laws.Concat
import Derived.Deep.AppendLies
import Derived.WalkSmall
import Derived.WalkKit
import Derived.ProofKit
import Derived.OpenShut
import Derived.Lib.Hide
import Derived.LoopTactic
import Derived.BigQuiet
import Derived.Deep.QuietTactic
import Derived.WalkSpells
import Derived.KernelRfl
namespace Go.Proofs.YtfanlhkpblemgaaDoor
open Go.ChangeShapes Go.WideShapes Go.ChangeAt Go.RowKit Go.Rd Go.Pt

def strB (l : List UInt8) : ByteArray := ⟨l.toArray⟩
theorem strB_of (s : ByteArray) : strB s.data.toList = s := rfl
theorem strB_data (l : List UInt8) : (strB l).data.toList = l := by simp [strB]
theorem toL (s : ByteArray) : s.toList = s.data.toList := by rw [ByteArray.toList_eq]
theorem byte_at (s : ByteArray) (k : Nat) (h : k < s.size) : s.data.toList[k]'(by simpa using h) = s[k] := by simp; rfl
theorem size_of (a : ByteArray) : a.size = a.data.toList.length := by simp
theorem Tryd.info9 : (Tryd.prog.info? 9).map (fun i => (i.zero, i.size, i.bytes)) = some (some (.string ⟨#[]⟩), 1, 16) := by kernel_rfl

def Gather (B : Nat) (w : World) (s : ByteArray) (v3 v4 v5 : Value) (wr : World) : Prop :=
  ∃ (W : List ByteArray) (f k : Nat), v4 = .int .i64 f ∧ v5 = .int .i64 k ∧ k ≤ s.size + 1 ∧ wr.ownsRow B 9 1 v3 W.length (W.map Value.string) ∧ W.length ≤ k ∧ (∃ g cap, v3 = .slice (some ⟨g, 0, none⟩) W.length cap) ∧ Below B w wr ∧
    Hid (FoundEls s.data.toList (W.map (·.data.toList)) f k)

set_option maxHeartbeats 1000000 in
theorem elements_any (s : ByteArray) (w : World) (hs : s.size ≤ 4000) :
    Calls Tryd.prog 13 #[.string s] w fun e w' => ∃ (g cap : Nat) (W : List ByteArray), e = .returned (.slice (some ⟨g, 0, none⟩) W.length cap) ∧ w'.ownsRow w.heap.size 9 1 (.slice (some ⟨g, 0, none⟩) W.length cap) W.length (W.map Value.string) ∧ Below w.heap.size w w' ∧ Hid (W.map (·.data.toList) = nels s.data.toList) := by
  obtain ⟨i0, hi, hz0, hz1, hz2⟩ := info_parts Tryd.info9
  go_enter Tryd.func13, Tryd.ntmps13
  go_wp2
  go_loopw [3, 4, 5] (fun v3 v4 v5 wr => Gather w.heap.size w s v3 v4 v5 wr) (fun _ _ v5 _ => 4002 - (intOf v5).toNat)
  case atStart => exact ⟨[], 0, 0, rfl, rfl, by omega, World.ownsRow_made w #[] 0 (Nat.le_refl _) (by decide) rfl, by simp, ⟨_, _, rfl⟩, (Below.refl _ _).alloc (Nat.le_refl _) _, Lib.hid (found_start _)⟩
  case round =>
    obtain ⟨W, f, k, rfl, rfl, hk, hown, hW, hform, hb, H⟩ := hrel
    by_cases c1 : k < s.size
    · have cb : ((k : Int) == (s.size : Int)) = false := by simp; omega
      have d1 : decide (k ≤ s.size) = true := by simp; omega
      have hfk := found_le H.out (by rw [← size_of]; omega)
      have hk' : k < s.data.toList.length := by rw [← size_of]; omega
      by_cases c3 : ((s[k]'c1).toNat : Int) = 47
      · have c3b : (((s[k]'c1).toNat : Int) == 47) = true := by simpa using c3
        have e47 : s.data.toList[k] = 47 := by rw [byte_at s k c1]; apply UInt8.toNat_inj.1; show (s[k]'c1).toNat = 47; omega
        clear c3
        by_cases c4 : f < k
        · have d4 : decide (f < s.size) = true := by simp; omega
          have HN := Lib.hid (found_more H.out (by rw [← size_of]; omega) (.inr ⟨hk', e47⟩) c4)
          have d4 : decide (f < k) = true := by simp; omega
          clear e47 hk'
          go_wp2_with (at_builtin; refine wpList_append_own _ rfl _ _ 33 rfl w.heap.size 9 i0 (.string ⟨#[]⟩) 1 16 Tryd.underlying33 hi hz0 hz1 hz2 rfl (by decide) _ _ _ rfl (hown.alloc _) ⟨wr.heap.size, 0, none⟩ 1 1 [.string (s.extract f k)] rfl rfl (cell_one_new _ _ _) (by intro u hu; simp at hu; subst hu; rfl) (by unfold maxLen; omega) (by omega) (by have := hb.size; simp; omega) ?_; intro v' w1 hown1 hgrow1 _)
          go_roundw
          case rel =>
            exact ⟨W ++ [s.extract f k], k + 1, k + 1, by go_num, by go_num, by omega, by simpa using hown1, by simp; omega, (by obtain ⟨g', cap', e', _⟩ := World.ownsRow.form hown1 (by omega); exact ⟨g', cap', by rw [e']; simp⟩), (hb.alloc hb.size _).grown hgrow1 (by simp; have := hb.size; omega) (fun g hg => (hown.lt g hg).1), Lib.hid (by
              have := HN.out
              simp only [List.map_append, List.map_cons, List.map_nil, Lib.extract_data]
              exact this)⟩
          case measure => simp [intOf]; omega
        · obtain rfl : f = k := by omega
          have HN := Lib.hid (found_none H.out (by rw [← size_of]; omega) (.inr ⟨hk', e47⟩))
          clear e47 hk'
          go_wp2
          go_roundw
          case rel => exact ⟨W, f + 1, f + 1, by go_num, by go_num, by omega, hown, by omega, hform, hb, HN⟩
          case measure => simp [intOf]; omega
      · have c3b : (((s[k]'c1).toNat : Int) == 47) = false := by simpa using c3
        have e47 : s.data.toList[k] ≠ 47 := by
          intro h
          apply c3
          rw [← byte_at s k c1, h]; rfl
        clear c3
        have HN := Lib.hid (found_plain H.out hk' e47)
        clear e47 hk'
        go_wp2
        go_roundw
        case rel => exact ⟨W, f, k + 1, rfl, by go_num, by omega, hown, by omega, hform, hb, HN⟩
        case measure => simp [intOf]; omega
    · by_cases c2 : k = s.size
      · subst c2
        have hfk := found_le H.out (by rw [← size_of]; omega)
        by_cases c4 : f < s.size
        · have d4 : decide (f < s.size) = true := by simp; omega
          have HN := Lib.hid (found_more H.out (by rw [← size_of]; omega) (.inl (size_of s)) c4)
          go_wp2_with (at_builtin; refine wpList_append_own _ rfl _ _ 33 rfl w.heap.size 9 i0 (.string ⟨#[]⟩) 1 16 Tryd.underlying33 hi hz0 hz1 hz2 rfl (by decide) _ _ _ rfl (hown.alloc _) ⟨wr.heap.size, 0, none⟩ 1 1 [.string (s.extract f s.size)] rfl rfl (cell_one_new _ _ _) (by intro u hu; simp at hu; subst hu; rfl) (by unfold maxLen; omega) (by omega) (by have := hb.size; simp; omega) ?_; intro v' w1 hown1 hgrow1 _)
          go_roundw
          case rel =>
            exact ⟨W ++ [s.extract f s.size], s.size + 1, s.size + 1, by go_num, by go_num, by omega, by simpa using hown1, by simp; omega, (by obtain ⟨g', cap', e', _⟩ := World.ownsRow.form hown1 (by omega); exact ⟨g', cap', by rw [e']; simp⟩), (hb.alloc hb.size _).grown hgrow1 (by simp; have := hb.size; omega) (fun g hg => (hown.lt g hg).1), Lib.hid (by
              have := HN.out
              simp only [List.map_append, List.map_cons, List.map_nil, Lib.extract_data]
              exact this)⟩
          case measure => simp [intOf]; omega
        · obtain rfl : f = s.size := by omega
          have HN := Lib.hid (found_none H.out (by rw [← size_of]; omega) (.inl (size_of s)))
          go_wp2
          go_roundw
          case rel => exact ⟨W, s.size + 1, s.size + 1, by go_num, by go_num, by omega, hown, by omega, hform, hb, HN⟩
          case measure => simp [intOf]; omega
      · have hdk : decide (k ≤ s.size) = false := by simp; omega
        have HN := Lib.hid (found_end H.out (by rw [← size_of]; omega))
        clear H
        obtain ⟨g, cap, rfl⟩ := hform
        go_wp2
        go_ret
        exact ⟨g, cap, W, rfl, hown, hb, HN⟩

theorem rooted_any (s : ByteArray) (w : World) : Calls Tryd.prog 12 #[.string s] w fun e w' => e = .returned (.bool (s.data.toList.head? == some 47)) ∧ w = w' := by
  by_cases c : s.data.toList = []
  · have e : s.toList.isEmpty = true := by rw [toL, c]; rfl
    have e2 : (s.data.toList.head? == some 47) = false := by rw [c]; rfl
    go_enter Tryd.func12, Tryd.ntmps12
    go_wp2
    go_ret
    exact ⟨by rw [e2]; rfl, rfl⟩
  · have e : s.toList.isEmpty = false := by rw [toL]; simpa using c
    have h0 : 0 < s.size := by rw [size_of]; exact List.length_pos_iff.2 c
    have e2 : (s.data.toList.head? == some 47) = ((s[0].toNat : Int) == 47) := by
      cases h : s.data.toList with
      | nil => exact absurd h c
      | cons x t =>
        have : s[0] = x := by
          have h1 := byte_at s 0 h0
          rw [← h1]
          simp only [h]
          rfl
        rw [this]
        by_cases hx : x = 47
        · subst hx; rfl
        · have h2 : ((x.toNat : Int) == 47) = false := by
            apply beq_eq_false_iff_ne.2
            exact fun hh => hx (UInt8.toNat_inj.1 (by show x.toNat = 47; omega))
          rw [h2]
          apply beq_eq_false_iff_ne.2
          simpa using hx
    have H := Lib.hid e2
    clear e2
    go_enter Tryd.func12, Tryd.ntmps12
    go_wp2
    go_ret
    exact ⟨by rw [H.out]; rfl, rfl⟩
end Go.Proofs.YtfanlhkpblemgaaDoor
