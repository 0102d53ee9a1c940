/- spec.MemName: the form of a name that is kept. -/
import Derived.Test.YtfanlhkpblemgaaProg
import Derived.Test.YtfanlhkpblemgaaRd
import Derived.Test.YtfanlhkpblemgaaPq
import Derived.Laws.Concat
import Derived.Deep.AppendLies
import Derived.WalkSmall
import Derived.WalkKit
import Derived.ProofKit
import Derived.Lib.Hide
import Derived.LoopTactic
import Derived.BigQuiet
import Derived.Deep.QuietTactic
import Derived.WalkSpells
import Derived.KernelRfl
import Derived.RegionTactic
import Derived.ChangeAlike
import Derived.Outline
import Derived.Deep.DeepCutAuto
import Derived.Deep.CutBlock
namespace Go.Proofs.Ytfanlhkpblemgaa
open Go.ChangeShapes Go.WideShapes Go.ChangeAt Go.RowKit Go.Rd Go.Pt
set_option linter.unusedVariables false

namespace Mn
def strB (l : List UInt8) : ByteArray := ⟨l.toArray⟩
theorem strB_of (s : ByteArray) : strB s.data.toList = s := rfl
theorem strB_data (l : List UInt8) : (strB l).data.toList = l := by simp [strB]
theorem toL (s : ByteArray) : s.toList = s.data.toList := by rw [ByteArray.toList_eq]
theorem byte_at (s : ByteArray) (k : Nat) (h : k < s.size) : s.data.toList[k]'(by simpa using h) = s[k] := by simp; rfl
theorem size_of (a : ByteArray) : a.size = a.data.toList.length := by simp
theorem cat_data (a b : ByteArray) : (a ++ b).data.toList = a.data.toList ++ b.data.toList := by simp [ByteArray.data_append]
theorem eqB {a b : ByteArray} (h : a.data.toList = b.data.toList) : a = b := by
  have := congrArg strB h
  exact this
theorem infoS : (Try.prog.info? 9).map (fun i => (i.zero, i.size, i.bytes)) = some (some (.string ⟨#[]⟩), 1, 16) := by kernel_rfl
/-- The kept form of a name. -/
def norm (l : List UInt8) : List UInt8 := if Go.Lib.Pa.cleanEls l = [46] ∨ Go.Lib.Pa.cleanEls l = [46, 46] then [47] else Go.Lib.Pa.cleanEls l
/-- What is built of elements. -/
def outOf (b : Bool) (W : List (List UInt8)) : List UInt8 := if W = [] then [] else if b then 47 :: inter W else inter W
theorem row_end {w : World} {B : Nat} {v : Value} {W : List ByteArray} (h : w.ownsRow B 9 1 v W.length (W.map Value.string)) : (W = [] ∧ v = .slice none 0 0) ∨ (∃ g cap, W = [] ∧ v = .slice (some ⟨g, 0, none⟩) 0 cap) ∨
    ∃ V y g cap, W = V ++ [y] ∧ v = .slice (some ⟨g, 0, none⟩) (V.length + 1) cap ∧ w.cell? ⟨g, V.length, none⟩ = some (.string y) ∧ (V.length + 1 ≤ cap ∧ cap ≤ maxLen) ∧ w.ownsRow B 9 1 (.slice (some ⟨g, 0, none⟩) (V.length + 1) cap) (V.length + 1) ((V ++ [y]).map Value.string) := by
  rcases List.eq_nil_or_concat W with rfl | ⟨V, y, rfl⟩
  · rcases h.2 with ⟨h1, _⟩ | ⟨g, cap, cur, hv, _⟩
    · exact .inl ⟨rfl, h1⟩
    · exact .inr (.inl ⟨g, cap, rfl, hv⟩)
  · obtain ⟨g, cap, hv, h1, h2⟩ : ∃ g cap, v = .slice (some ⟨g, 0, none⟩) (V.concat y).length cap ∧ (V.concat y).length ≤ cap ∧ cap ≤ maxLen := by
      rcases h.2 with ⟨_, h0⟩ | ⟨g, cap, cur, hv, _, _, h1, h2, _⟩
      · simp at h0
      · exact ⟨g, cap, hv, h1, h2⟩
    subst hv
    have hl : (V.concat y).length = V.length + 1 := by simp
    rw [hl] at h h1 ⊢
    rw [List.concat_eq_append] at h ⊢
    refine .inr (.inr ⟨V, y, g, cap, rfl, rfl, ?_, ⟨h1, h2⟩, h⟩)
    have := h.cellAt V.length (by omega)
    simpa using this
/-- The piece at i ends at k. -/
theorem piece_keeps {b : Bool} {W S : List (List UInt8)} {s : List UInt8} {i k : Nat} (h : Keeps b W (nels (s.drop i)) S) (hik : i ≤ k) (hk : k ≤ s.length) (hno : 47 ∉ (s.drop i).take (k - i)) (hc : k = s.length ∨ ∃ h : k < s.length, s[k] = 47) :
    Keeps b W ((if (s.drop i).take (k - i) = [] then [] else [(s.drop i).take (k - i)]) ++ nels (s.drop (k + 1))) S := by
  rcases hc with rfl | ⟨hlt, hc⟩
  · have e1 : (s.drop i).take (s.length - i) = s.drop i := List.take_of_length_le (by simp)
    rw [e1] at hno ⊢
    rw [nels_last hno] at h
    rw [List.drop_of_length_le (show s.length ≤ s.length + 1 by omega)]
    have e2 : nels ([] : List UInt8) = [] := by simp [nels, Go.Lib.Pa.els]
    rw [e2, List.append_nil]
    exact h
  · rw [cut_at hik hlt hc, nels_split hno] at h
    exact h
theorem no47_more {r : List UInt8} {f k : Nat} (hf : f ≤ k) (hk : k < r.length) (hno : 47 ∉ (r.drop f).take (k - f)) (hc : r[k] ≠ 47) : 47 ∉ (r.drop f).take (k + 1 - f) := by
  rw [take_more hf hk]
  simp only [List.mem_append, List.mem_singleton, not_or]
  exact ⟨hno, fun e => hc e.symm⟩
theorem step_fine {b : Bool} {st : List (List UInt8)} {e : List UInt8} (h : ∀ x ∈ st, x ≠ [] ∧ x ≠ [46]) : ∀ x ∈ Go.Lib.Pa.cleanStep b st e, x ≠ [] ∧ x ≠ [46] := by
  unfold Go.Lib.Pa.cleanStep
  split
  · exact h
  · rename_i h1
    simp only [not_or] at h1
    have he : ∀ x ∈ e :: st, x ≠ [] ∧ x ≠ [46] := by
      intro x hx
      rcases List.mem_cons.1 hx with rfl | hx
      · exact h1
      · exact h x hx
    split
    · cases st with
      | nil => cases b <;> simp [h1.1, h1.2]
      | cons y r =>
        dsimp only
        split
        · exact he
        · exact fun x hx => h x (by simp [hx])
    · exact he
theorem stack_fine (b : Bool) (l : List UInt8) : ∀ x ∈ ((Go.Lib.Pa.els l).foldl (Go.Lib.Pa.cleanStep b) []).reverse, x ≠ [] ∧ x ≠ [46] := by
  have : ∀ (L st : List (List UInt8)), (∀ x ∈ st, x ≠ [] ∧ x ≠ [46]) → ∀ x ∈ L.foldl (Go.Lib.Pa.cleanStep b) st, x ≠ [] ∧ x ≠ [46] := by
    intro L
    induction L with
    | nil => intro st h; exact h
    | cons e L ih => intro st h; exact ih _ (step_fine h)
  intro x hx
  exact this (Go.Lib.Pa.els l) [] (fun y hy => by simp at hy) x (by simpa using hx)
theorem inter_ne {W : List (List UInt8)} (hW : W ≠ []) (h : ∀ x ∈ W, x ≠ [] ∧ x ≠ [46]) : inter W ≠ [] ∧ inter W ≠ [46] := by
  match W, hW, h with
  | [e], _, h =>
    rw [inter_one]
    exact h e (by simp)
  | e :: x :: L, _, h =>
    rw [Go.Pt.inter_cons2]
    have he := (h e (by simp)).1
    refine ⟨by simp, fun hh => ?_⟩
    have := congrArg List.length hh
    have : 0 < e.length := List.length_pos_iff.2 he
    simp at *
    omega
/-- The kept form, out of the kept elements. -/
theorem norm_of {l : List UInt8} {W : List (List UInt8)} (h : W = ((Go.Lib.Pa.els l).foldl (Go.Lib.Pa.cleanStep (l.head? == some 47)) []).reverse) :
    norm l = if outOf (l.head? == some 47) W = [] ∨ outOf (l.head? == some 47) W = [46, 46] then [47] else outOf (l.head? == some 47) W := by
  have hf : ∀ x ∈ W, x ≠ [] ∧ x ≠ [46] := by rw [h]; exact stack_fine _ _
  have hc := cleanEls_of l W h (fun x hx => (hf x hx).1)
  unfold norm
  rw [hc]
  unfold outOf
  cases (l.head? == some 47) with
  | true =>
    by_cases hW : W = []
    · subst hW; simp [inter, List.intercalate]
    · simp [hW]
  | false =>
    by_cases hW : W = []
    · subst hW; simp
    · have := inter_ne hW hf
      simp [hW, this.1, this.2]
theorem out_zero (b : Bool) (L : List (List UInt8)) : outOf b (L.take 0) = [] := by simp [outOf]
theorem out_more (b : Bool) (L : List (List UInt8)) (j : Nat) (h : j < L.length) : outOf b (L.take (j + 1)) = outOf b (L.take j) ++ (if 0 < j ∨ b = true then [47] else []) ++ L[j] := by
  have hne : L.take (j + 1) ≠ [] := by
    intro e
    have := congrArg List.length e
    rw [List.length_take, List.length_nil] at this
    omega
  by_cases hj : 0 < j
  · have hne2 : L.take j ≠ [] := by
      intro e
      have := congrArg List.length e
      rw [List.length_take, List.length_nil] at this
      omega
    unfold outOf
    rw [if_neg hne, if_neg hne2, inter_take_more L j h hj, if_pos (show 0 < j ∨ b = true from .inl hj)]
    cases b <;> simp
  · obtain rfl : j = 0 := by omega
    rw [out_zero]
    unfold outOf
    rw [if_neg hne, inter_take_one L h]
    cases b <;> simp
theorem out_len (b : Bool) (L : List (List UInt8)) : (outOf b L).length ≤ tot L + 1 := by
  have := tot_inter L
  unfold outOf
  split
  · simp
  · split
    · simp; omega
    · omega
/-- The state of the loop over pieces. -/
def Pieces (B : Nat) (w : World) (s : ByteArray) (b : Bool) (S : List (List UInt8)) (v3 v5 : Value) (wr : World) : Prop :=
  ∃ (W : List ByteArray) (i : Nat), v5 = .int .i64 i ∧ i ≤ s.size + 1 ∧ wr.ownsRow B 9 1 v3 W.length (W.map Value.string) ∧ W.length ≤ i ∧ Below B w wr ∧ Hid (Keeps b (W.map (·.data.toList)) (nels (s.data.toList.drop i)) S)
/-- The state of the loop that looks for a slash. -/
def Slash (s : ByteArray) (i : Nat) (v6 : Value) : Prop := ∃ k : Nat, v6 = .int .i64 k ∧ i ≤ k ∧ k ≤ s.size ∧ Hid (47 ∉ (s.data.toList.drop i).take (k - i))
/-- The state of the loop that builds the name. -/
def Builds (w : World) (W : List ByteArray) (b : Bool) (M : Nat) (v8 v84 : Value) (wr : World) : Prop :=
  ∃ (r : ByteArray) (j : Nat), v8 = .string r ∧ v84 = .int .i64 j ∧ j ≤ W.length ∧ r.size ≤ M ∧ (∃ n, w.drewN n = wr) ∧ Hid (r.data.toList = outOf b ((W.map (·.data.toList)).take j))
/-- The end of MemName. -/
def Kept (R : ByteArray) (w : World) (e : Ending) (w' : World) : Prop := e = .returned (.string R) ∧ Below w.heap.size w w'

set_option maxRecDepth 100000 in
set_option maxHeartbeats 4000000 in
theorem name_any (s : ByteArray) (w : World) (hs : s.size ≤ 2147483647) (R : ByteArray) (hR : Hid (strB (norm s.data.toList) = R)) :
    Calls Try.prog 12 #[.string s] w (Kept R w) := by
  obtain ⟨i0, hi, hz0, hz1, hz2⟩ := info_parts infoS
  obtain ⟨b, hb0⟩ : ∃ b, b = (s.data.toList.head? == some 47) := ⟨_, rfl⟩
  have Hb := Lib.hid hb0
  obtain ⟨S, hS⟩ : ∃ S, S = (Go.Lib.Pa.els s.data.toList).foldl (Go.Lib.Pa.cleanStep b) [] := ⟨_, rfl⟩
  have HS := Lib.hid hS
  clear hb0 hS
  go_enter Try.func12, Try.ntmps12
  go_wp2_with fail
  go_cut [3, 4] (fun v3 v4 wx => v4 = .bool b ∧ wx.ownsRow w.heap.size 9 1 v3 0 [] ∧ Below w.heap.size w wx)
  case first =>
    by_cases h0 : s.size = 0
    · have hd : decide (0 < s.size) = false := by simp [h0]
      have hb : b = false := by
        rw [Hb.out]
        have : s.data.toList = [] := List.eq_nil_of_length_eq_zero (by rw [← size_of]; exact h0)
        rw [this]; rfl
      subst hb
      clear h0
      go_region
      all_goals
        go_wp2_with fail
        go_meet
        exact ⟨rfl, World.ownsRow_made w #[] 0 (Nat.le_refl _) (by decide) rfl, ((Below.refl _ _).alloc (Nat.le_refl _) _).drew⟩
    · have h0' : 0 < s.size := by omega
      have hd : decide (0 < s.size) = true := by simp; omega
      have e2 : ((s[0].toNat : Int) == 47) = b := by
        rw [Hb.out]
        cases h : s.data.toList with
        | nil => rw [size_of, h] at h0'; simp at h0'
        | cons x t =>
          have : s[0] = x := by
            have h1 := byte_at s 0 h0'
            rw [← h1]
            simp only [h]
            rfl
          rw [this]
          by_cases hx : x = 47
          · subst hx; rfl
          · have h2 : ((x.toNat : Int) == 47) = false := by
              apply beq_eq_false_iff_ne.2
              exact fun hh => hx (UInt8.toNat_inj.1 (by show x.toNat = 47; omega))
            rw [h2]
            apply Eq.symm
            apply beq_eq_false_iff_ne.2
            simpa using hx
      clear h0
      go_region
      all_goals
        go_wp2_with fail
        go_meet
        exact ⟨rfl, World.ownsRow_made w #[] 0 (Nat.le_refl _) (by decide) rfl, ((Below.refl _ _).alloc (Nat.le_refl _) _).drew⟩
  case rest =>
    obtain ⟨rfl, hown, hB⟩ := hcut
    go_wp2_with fail
    go_loopw [3, 5, 6, 7, 41, 48, 55, 73] (fun v3 v5 _ _ _ _ _ _ wr => Pieces w.heap.size w s b S v3 v5 wr) (fun _ v5 _ _ _ _ _ _ _ => s.size + 1 - (intOf v5).toNat)
    case atStart => exact ⟨[], 0, rfl, Nat.zero_le _, hown, Nat.le_refl _, hB, Lib.hid (by rw [List.drop_zero, HS.out]; exact keeps_start b _)⟩
    case round =>
      clear hown hB
      obtain ⟨W, i, rfl, hi1, hown, hW, hb, HK⟩ := hrel
      by_cases c1 : i < s.size
      · have d1 : decide (i < s.size) = true := decide_eq_true c1
        obtain ⟨wo, hwo⟩ : ∃ wo, wo = wr := ⟨_, rfl⟩
        go_wp2_with fail
        go_loop [6] (fun v6 => Slash s i v6) (fun v6 => s.size - (intOf v6).toNat)
        case atStart => exact ⟨i, rfl, Nat.le_refl _, by omega, Lib.hid (by simp)⟩
        case round =>
          obtain ⟨k, rfl, hik, hks, hno⟩ := hrel
          by_cases c4 : ∃ c2 : k < s.size, ((s[k]'c2).toNat : Int) ≠ 47
          · obtain ⟨c2, c3⟩ := c4
            have d2 : decide (k < s.size) = true := decide_eq_true c2
            have hk' : k < s.data.toList.length := by rw [← size_of]; omega
            have c3b : (((s[k]'c2).toNat : Int) == 47) = false := by simpa using c3
            have c3n : (((s[k]'c2).toNat : Int) != 47) = true := by simpa using c3
            have e47 : s.data.toList[k] ≠ 47 := by
              intro h
              apply c3
              rw [← byte_at s k c2, h]; rfl
            have HN := Lib.hid (no47_more hik hk' hno.out e47)
            clear c3 e47 hk'
            go_wp2_with fail
            go_round
            case rel => exact ⟨k + 1, by go_num, by omega, by omega, HN⟩
            case measure => simp [intOf]; omega
          · have hend : k = s.data.toList.length ∨ ∃ h : k < s.data.toList.length, s.data.toList[k] = 47 := by
              by_cases c2 : k < s.size
              · right
                have hk' : k < s.data.toList.length := by rw [← size_of]; omega
                refine ⟨hk', ?_⟩
                rw [byte_at s k c2]
                apply UInt8.toNat_inj.1
                have : ¬ ((s[k]'c2).toNat : Int) ≠ 47 := fun h => c4 ⟨c2, h⟩
                show (s[k]'c2).toNat = 47
                omega
              · left
                rw [← size_of]; omega
            have hkp := piece_keeps HK.out hik (by rw [← size_of]; omega) hno.out hend
            have hx : (s.extract i k).data.toList = (s.data.toList.drop i).take (k - i) := Lib.extract_data _ _ _
            rw [← hx] at hkp
            obtain ⟨x, hxe⟩ : ∃ x, x = s.extract i k := ⟨_, rfl⟩
            rw [← hxe] at hkp
            have HKP := Lib.hid hkp
            have HXE := Lib.hid hxe
            have hcase : (∃ c2 : k < s.size, (((s[k]'c2).toNat : Int) != 47) = false) ∨ decide (k < s.size) = false := by
              by_cases c2 : k < s.size
              · left
                have : ¬ ((s[k]'c2).toNat : Int) ≠ 47 := fun h => c4 ⟨c2, h⟩
                exact ⟨c2, by simpa using this⟩
              · right; simpa using c2
            clear hkp hx hxe hend hno HK c4
            rcases hcase with ⟨c2, c3n⟩ | d2
            · have d2 : decide (k < s.size) = true := decide_eq_true c2
              go_upto_region 8 with fail
              rw [← HXE.out]
              clear HXE
              by_cases e0 : x.data.toList = []
              · have t0 : x.toList.isEmpty = true := by rw [toL, e0]; rfl
                have HN := Lib.hid (show Keeps b (W.map (·.data.toList)) (nels (s.data.toList.drop (k + 1))) S by have := HKP.out; rw [if_pos e0] at this; exact this)
                clear e0
                go_wp2_with fail
                go_roundw
                case rel => exact ⟨W, k + 1, by go_num, by omega, hown, by omega, hb, HN⟩
                case measure => simp [intOf]; omega
              · have t0 : x.toList.isEmpty = false := by rw [toL]; simpa using e0
                have HD := Lib.hid (show Keeps b (W.map (·.data.toList)) (x.data.toList :: nels (s.data.toList.drop (k + 1))) S by have := HKP.out; rw [if_neg e0] at this; exact this)
                clear e0 HKP
                by_cases e1 : x.data.toList = [46]
                · have t1 : (x.toList == [46]) = true := by rw [toL, e1]; rfl
                  have HN := Lib.hid (keeps_dot (by rw [← e1]; exact HD.out))
                  clear e1
                  go_wp2_with fail
                  go_roundw
                  case rel => exact ⟨W, k + 1, by go_num, by omega, hown, by omega, hb, HN⟩
                  case measure => simp [intOf]; omega
                · have t1 : (x.toList == [46]) = false := by rw [toL]; exact beq_eq_false_iff_ne.2 e1
                  by_cases e2 : x.data.toList = [46, 46]
                  · have t2 : (x.toList == [46, 46]) = true := by rw [toL, e2]; rfl
                    have t2n : (x.toList != [46, 46]) = false := by rw [bne, t2]; rfl
                    have HD2 := Lib.hid (show Keeps b (W.map (·.data.toList)) ([46, 46] :: nels (s.data.toList.drop (k + 1))) S by rw [← e2]; exact HD.out)
                    have E2 := Lib.hid e2
                    clear e1 e2
                    rcases row_end hown with ⟨rfl, rfl⟩ | ⟨g', cap', rfl, rfl⟩ | ⟨V, y, g', cap', rfl, rfl, hl, hcap, hown'⟩
                    · cases b with
                      | true =>
                        have HN := Lib.hid (keeps_top HD2.out (.inl rfl))
                        go_wp2_with fail
                        go_roundw
                        case rel => exact ⟨_, k + 1, by go_num, by omega, hown, by omega, hb, HN⟩
                        case measure => simp [intOf]; omega
                      | false =>
                        have HN := Lib.hid (keeps_dots HD2.out (.inl rfl))
                        go_wp2_with (at_builtin; refine wpList_append_own _ rfl _ _ 26 rfl w.heap.size 9 i0 (.string ⟨#[]⟩) 1 16 Try.underlying26 hi hz0 hz1 hz2 rfl (by decide) _ _ _ rfl (hown.alloc _) ⟨wr.heap.size, 0, none⟩ 1 1 [.string x] rfl rfl (cell_one_new _ _ _) (by intro u hu; simp at hu; subst hu; rfl) (by unfold maxLen; omega) (by omega) (by have := hb.size; simp; omega) ?_; intro v' w2 hown1 hgrow1 _)
                        go_roundw
                        case rel => exact ⟨([] : List ByteArray) ++ [x], k + 1, by go_num, by omega, by simpa using hown1, by simp <;> omega, (hb.alloc hb.size _).grown hgrow1 (by simp; have := hb.size; omega) (fun g hg => (hown.lt g hg).1), Lib.hid (by rw [List.map_append]; have := HN.out; first | exact this | (rw [← E2.out] at this; exact this))⟩
                        case measure => simp [intOf]; omega
                    · cases b with
                      | true =>
                        have HN := Lib.hid (keeps_top HD2.out (.inl rfl))
                        go_wp2_with fail
                        go_roundw
                        case rel => exact ⟨_, k + 1, by go_num, by omega, hown, by omega, hb, HN⟩
                        case measure => simp [intOf]; omega
                      | false =>
                        have HN := Lib.hid (keeps_dots HD2.out (.inl rfl))
                        go_wp2_with (at_builtin; refine wpList_append_own _ rfl _ _ 26 rfl w.heap.size 9 i0 (.string ⟨#[]⟩) 1 16 Try.underlying26 hi hz0 hz1 hz2 rfl (by decide) _ _ _ rfl (hown.alloc _) ⟨wr.heap.size, 0, none⟩ 1 1 [.string x] rfl rfl (cell_one_new _ _ _) (by intro u hu; simp at hu; subst hu; rfl) (by unfold maxLen; omega) (by omega) (by have := hb.size; simp; omega) ?_; intro v' w2 hown1 hgrow1 _)
                        go_roundw
                        case rel => exact ⟨([] : List ByteArray) ++ [x], k + 1, by go_num, by omega, by simpa using hown1, by simp <;> omega, (hb.alloc hb.size _).grown hgrow1 (by simp; have := hb.size; omega) (fun g hg => (hown.lt g hg).1), Lib.hid (by rw [List.map_append]; have := HN.out; first | exact this | (rw [← E2.out] at this; exact this))⟩
                        case measure => simp [intOf]; omega
                    · have hVl : (V ++ [y]).length = V.length + 1 := by simp
                      by_cases e3 : y.data.toList = [46, 46]
                      · have t3 : (y.toList == [46, 46]) = true := by rw [toL, e3]; rfl
                        have t3n : (y.toList != [46, 46]) = false := by rw [bne, t3]; rfl
                        have HV := Lib.hid (show (V ++ [y]).map (·.data.toList) = V.map (·.data.toList) ++ [[46, 46]] by rw [List.map_append]; simp [e3])
                        clear e3
                        cases b with
                        | true =>
                          have HN := Lib.hid (keeps_top HD2.out (.inr ⟨_, HV.out⟩))
                          go_wp2_with fail
                          go_roundw
                          case rel => exact ⟨_, k + 1, by go_num, by omega, hown, by omega, hb, HN⟩
                          case measure => simp [intOf]; omega
                        | false =>
                          have HN := Lib.hid (keeps_dots HD2.out (.inr ⟨_, HV.out⟩))
                          go_wp2_with (at_builtin; refine wpList_append_own _ rfl _ _ 26 rfl w.heap.size 9 i0 (.string ⟨#[]⟩) 1 16 Try.underlying26 hi hz0 hz1 hz2 rfl (by decide) _ _ _ rfl (hown.alloc _) ⟨wr.heap.size, 0, none⟩ 1 1 [.string x] rfl rfl (cell_one_new _ _ _) (by intro u hu; simp at hu; subst hu; rfl) (by unfold maxLen; omega) (by omega) (by have := hb.size; simp; omega) ?_; intro v' w2 hown1 hgrow1 _)
                          go_roundw
                          case rel => exact ⟨(V ++ [y]) ++ [x], k + 1, by go_num, by omega, by simpa using hown1, by simp <;> omega, (hb.alloc hb.size _).grown hgrow1 (by simp; have := hb.size; omega) (fun g hg => (hown.lt g hg).1), Lib.hid (by rw [List.map_append]; have := HN.out; first | exact this | (rw [← E2.out] at this; exact this))⟩
                          case measure => simp [intOf]; omega
                      · have t3 : (y.toList == [46, 46]) = false := by rw [toL]; exact beq_eq_false_iff_ne.2 e3
                        have t3n : (y.toList != [46, 46]) = true := by rw [bne, t3]; rfl
                        have HN := Lib.hid (keeps_up (by rw [List.map_append] at HD2; exact HD2.out) e3)
                        have hpop := ownsRow_pop (size := 1) (n := V.length) (xs := V.map Value.string) (last := [.string y]) (by simp) (by rw [List.map_append] at hown'; exact hown')
                        clear e3 hown
                        rw [hVl] at hW
                        clear hVl hown' HD2 HD E2
                        have q1 : ((V.length + 1 : Nat) : Int) - 1 = (V.length : Int) := by omega
                        go_wp2_with fail
                        go_roundw
                        case rel => exact ⟨V, k + 1, by go_num, by omega, hpop, by omega, hb, HN⟩
                        case measure => simp [intOf]; omega
                  · have t2 : (x.toList == [46, 46]) = false := by rw [toL]; exact beq_eq_false_iff_ne.2 e2
                    have t2n : (x.toList != [46, 46]) = true := by rw [bne, t2]; rfl
                    have HN := Lib.hid (keeps_more HD.out e1 e2)
                    clear e1 e2
                    go_wp2_with (at_builtin; refine wpList_append_own _ rfl _ _ 26 rfl w.heap.size 9 i0 (.string ⟨#[]⟩) 1 16 Try.underlying26 hi hz0 hz1 hz2 rfl (by decide) _ _ _ rfl (hown.alloc _) ⟨wr.heap.size, 0, none⟩ 1 1 [.string x] rfl rfl (cell_one_new _ _ _) (by intro u hu; simp at hu; subst hu; rfl) (by unfold maxLen; omega) (by omega) (by have := hb.size; simp; omega) ?_; intro v' w2 hown1 hgrow1 _)
                    go_roundw
                    case rel => exact ⟨W ++ [x], k + 1, by go_num, by omega, by simpa using hown1, by simp <;> omega, (hb.alloc hb.size _).grown hgrow1 (by simp; have := hb.size; omega) (fun g hg => (hown.lt g hg).1), Lib.hid (by rw [List.map_append]; have := HN.out; first | exact this | (rw [← E2.out] at this; exact this))⟩
                    case measure => simp [intOf]; omega
            · go_upto_region 8 with fail
              rw [← HXE.out]
              clear HXE
              by_cases e0 : x.data.toList = []
              · have t0 : x.toList.isEmpty = true := by rw [toL, e0]; rfl
                have HN := Lib.hid (show Keeps b (W.map (·.data.toList)) (nels (s.data.toList.drop (k + 1))) S by have := HKP.out; rw [if_pos e0] at this; exact this)
                clear e0
                go_wp2_with fail
                go_roundw
                case rel => exact ⟨W, k + 1, by go_num, by omega, hown, by omega, hb, HN⟩
                case measure => simp [intOf]; omega
              · have t0 : x.toList.isEmpty = false := by rw [toL]; simpa using e0
                have HD := Lib.hid (show Keeps b (W.map (·.data.toList)) (x.data.toList :: nels (s.data.toList.drop (k + 1))) S by have := HKP.out; rw [if_neg e0] at this; exact this)
                clear e0 HKP
                by_cases e1 : x.data.toList = [46]
                · have t1 : (x.toList == [46]) = true := by rw [toL, e1]; rfl
                  have HN := Lib.hid (keeps_dot (by rw [← e1]; exact HD.out))
                  clear e1
                  go_wp2_with fail
                  go_roundw
                  case rel => exact ⟨W, k + 1, by go_num, by omega, hown, by omega, hb, HN⟩
                  case measure => simp [intOf]; omega
                · have t1 : (x.toList == [46]) = false := by rw [toL]; exact beq_eq_false_iff_ne.2 e1
                  by_cases e2 : x.data.toList = [46, 46]
                  · have t2 : (x.toList == [46, 46]) = true := by rw [toL, e2]; rfl
                    have t2n : (x.toList != [46, 46]) = false := by rw [bne, t2]; rfl
                    have HD2 := Lib.hid (show Keeps b (W.map (·.data.toList)) ([46, 46] :: nels (s.data.toList.drop (k + 1))) S by rw [← e2]; exact HD.out)
                    have E2 := Lib.hid e2
                    clear e1 e2
                    rcases row_end hown with ⟨rfl, rfl⟩ | ⟨g', cap', rfl, rfl⟩ | ⟨V, y, g', cap', rfl, rfl, hl, hcap, hown'⟩
                    · cases b with
                      | true =>
                        have HN := Lib.hid (keeps_top HD2.out (.inl rfl))
                        go_wp2_with fail
                        go_roundw
                        case rel => exact ⟨_, k + 1, by go_num, by omega, hown, by omega, hb, HN⟩
                        case measure => simp [intOf]; omega
                      | false =>
                        have HN := Lib.hid (keeps_dots HD2.out (.inl rfl))
                        go_wp2_with (at_builtin; refine wpList_append_own _ rfl _ _ 26 rfl w.heap.size 9 i0 (.string ⟨#[]⟩) 1 16 Try.underlying26 hi hz0 hz1 hz2 rfl (by decide) _ _ _ rfl (hown.alloc _) ⟨wr.heap.size, 0, none⟩ 1 1 [.string x] rfl rfl (cell_one_new _ _ _) (by intro u hu; simp at hu; subst hu; rfl) (by unfold maxLen; omega) (by omega) (by have := hb.size; simp; omega) ?_; intro v' w2 hown1 hgrow1 _)
                        go_roundw
                        case rel => exact ⟨([] : List ByteArray) ++ [x], k + 1, by go_num, by omega, by simpa using hown1, by simp <;> omega, (hb.alloc hb.size _).grown hgrow1 (by simp; have := hb.size; omega) (fun g hg => (hown.lt g hg).1), Lib.hid (by rw [List.map_append]; have := HN.out; first | exact this | (rw [← E2.out] at this; exact this))⟩
                        case measure => simp [intOf]; omega
                    · cases b with
                      | true =>
                        have HN := Lib.hid (keeps_top HD2.out (.inl rfl))
                        go_wp2_with fail
                        go_roundw
                        case rel => exact ⟨_, k + 1, by go_num, by omega, hown, by omega, hb, HN⟩
                        case measure => simp [intOf]; omega
                      | false =>
                        have HN := Lib.hid (keeps_dots HD2.out (.inl rfl))
                        go_wp2_with (at_builtin; refine wpList_append_own _ rfl _ _ 26 rfl w.heap.size 9 i0 (.string ⟨#[]⟩) 1 16 Try.underlying26 hi hz0 hz1 hz2 rfl (by decide) _ _ _ rfl (hown.alloc _) ⟨wr.heap.size, 0, none⟩ 1 1 [.string x] rfl rfl (cell_one_new _ _ _) (by intro u hu; simp at hu; subst hu; rfl) (by unfold maxLen; omega) (by omega) (by have := hb.size; simp; omega) ?_; intro v' w2 hown1 hgrow1 _)
                        go_roundw
                        case rel => exact ⟨([] : List ByteArray) ++ [x], k + 1, by go_num, by omega, by simpa using hown1, by simp <;> omega, (hb.alloc hb.size _).grown hgrow1 (by simp; have := hb.size; omega) (fun g hg => (hown.lt g hg).1), Lib.hid (by rw [List.map_append]; have := HN.out; first | exact this | (rw [← E2.out] at this; exact this))⟩
                        case measure => simp [intOf]; omega
                    · have hVl : (V ++ [y]).length = V.length + 1 := by simp
                      by_cases e3 : y.data.toList = [46, 46]
                      · have t3 : (y.toList == [46, 46]) = true := by rw [toL, e3]; rfl
                        have t3n : (y.toList != [46, 46]) = false := by rw [bne, t3]; rfl
                        have HV := Lib.hid (show (V ++ [y]).map (·.data.toList) = V.map (·.data.toList) ++ [[46, 46]] by rw [List.map_append]; simp [e3])
                        clear e3
                        cases b with
                        | true =>
                          have HN := Lib.hid (keeps_top HD2.out (.inr ⟨_, HV.out⟩))
                          go_wp2_with fail
                          go_roundw
                          case rel => exact ⟨_, k + 1, by go_num, by omega, hown, by omega, hb, HN⟩
                          case measure => simp [intOf]; omega
                        | false =>
                          have HN := Lib.hid (keeps_dots HD2.out (.inr ⟨_, HV.out⟩))
                          go_wp2_with (at_builtin; refine wpList_append_own _ rfl _ _ 26 rfl w.heap.size 9 i0 (.string ⟨#[]⟩) 1 16 Try.underlying26 hi hz0 hz1 hz2 rfl (by decide) _ _ _ rfl (hown.alloc _) ⟨wr.heap.size, 0, none⟩ 1 1 [.string x] rfl rfl (cell_one_new _ _ _) (by intro u hu; simp at hu; subst hu; rfl) (by unfold maxLen; omega) (by omega) (by have := hb.size; simp; omega) ?_; intro v' w2 hown1 hgrow1 _)
                          go_roundw
                          case rel => exact ⟨(V ++ [y]) ++ [x], k + 1, by go_num, by omega, by simpa using hown1, by simp <;> omega, (hb.alloc hb.size _).grown hgrow1 (by simp; have := hb.size; omega) (fun g hg => (hown.lt g hg).1), Lib.hid (by rw [List.map_append]; have := HN.out; first | exact this | (rw [← E2.out] at this; exact this))⟩
                          case measure => simp [intOf]; omega
                      · have t3 : (y.toList == [46, 46]) = false := by rw [toL]; exact beq_eq_false_iff_ne.2 e3
                        have t3n : (y.toList != [46, 46]) = true := by rw [bne, t3]; rfl
                        have HN := Lib.hid (keeps_up (by rw [List.map_append] at HD2; exact HD2.out) e3)
                        have hpop := ownsRow_pop (size := 1) (n := V.length) (xs := V.map Value.string) (last := [.string y]) (by simp) (by rw [List.map_append] at hown'; exact hown')
                        clear e3 hown
                        rw [hVl] at hW
                        clear hVl hown' HD2 HD E2
                        have q1 : ((V.length + 1 : Nat) : Int) - 1 = (V.length : Int) := by omega
                        go_wp2_with fail
                        go_roundw
                        case rel => exact ⟨V, k + 1, by go_num, by omega, hpop, by omega, hb, HN⟩
                        case measure => simp [intOf]; omega
                  · have t2 : (x.toList == [46, 46]) = false := by rw [toL]; exact beq_eq_false_iff_ne.2 e2
                    have t2n : (x.toList != [46, 46]) = true := by rw [bne, t2]; rfl
                    have HN := Lib.hid (keeps_more HD.out e1 e2)
                    clear e1 e2
                    go_wp2_with (at_builtin; refine wpList_append_own _ rfl _ _ 26 rfl w.heap.size 9 i0 (.string ⟨#[]⟩) 1 16 Try.underlying26 hi hz0 hz1 hz2 rfl (by decide) _ _ _ rfl (hown.alloc _) ⟨wr.heap.size, 0, none⟩ 1 1 [.string x] rfl rfl (cell_one_new _ _ _) (by intro u hu; simp at hu; subst hu; rfl) (by unfold maxLen; omega) (by omega) (by have := hb.size; simp; omega) ?_; intro v' w2 hown1 hgrow1 _)
                    go_roundw
                    case rel => exact ⟨W ++ [x], k + 1, by go_num, by omega, by simpa using hown1, by simp <;> omega, (hb.alloc hb.size _).grown hgrow1 (by simp; have := hb.size; omega) (fun g hg => (hown.lt g hg).1), Lib.hid (by rw [List.map_append]; have := HN.out; first | exact this | (rw [← E2.out] at this; exact this))⟩
                    case measure => simp [intOf]; omega
      · have d1 : decide (i < s.size) = false := decide_eq_false c1
        have hWS : W.map (·.data.toList) = S.reverse := keeps_end (by
          have := HK.out
          rw [List.drop_of_length_le (by rw [← size_of]; omega)] at this
          exact this)
        have hno := norm_of (l := s.data.toList) (W := W.map (·.data.toList)) (by rw [hWS, HS.out, Hb.out])
        rw [← Hb.out] at hno
        have hT : tot (W.map (·.data.toList)) ≤ s.size + 1 := by
          rw [hWS, HS.out, size_of]
          exact tot_stack b _
        have HNO := Lib.hid hno
        have HT := Lib.hid hT
        have hol := out_len b (W.map (·.data.toList))
        have HOL := Lib.hid hol
        clear hWS hno hT HK hol
        rcases row_end hown with ⟨rfl, rfl⟩ | ⟨g', cap', rfl, rfl⟩ | ⟨V, y, g', cap', hV, rfl, hl, hcap, hown'⟩
        · have hR2 : (⟨#[47]⟩ : ByteArray) = R := by rw [← hR.out, HNO.out]; rfl
          have HR2 := Lib.hid hR2
          clear hR2
          go_wp2_with fail
          go_loopw [8, 9, 10, 84] (fun v8 _ _ v84 wx => v8 = .string ⟨#[]⟩ ∧ v84 = .int .i64 0 ∧ wx = wr) (fun _ _ _ _ _ => 0)
          case atStart => exact ⟨rfl, rfl, rfl⟩
          case round =>
            obtain ⟨rfl, rfl, rfl⟩ := hrel
            go_wp2_with fail
            go_ret
            exact ⟨by rw [← HR2.out]; rfl, hb⟩
        · have hR2 : (⟨#[47]⟩ : ByteArray) = R := by rw [← hR.out, HNO.out]; rfl
          have HR2 := Lib.hid hR2
          clear hR2
          go_wp2_with fail
          go_loopw [8, 9, 10, 84] (fun v8 _ _ v84 wx => v8 = .string ⟨#[]⟩ ∧ v84 = .int .i64 0 ∧ wx = wr) (fun _ _ _ _ _ => 0)
          case atStart => exact ⟨rfl, rfl, rfl⟩
          case round =>
            obtain ⟨rfl, rfl, rfl⟩ := hrel
            go_wp2_with fail
            go_ret
            exact ⟨by rw [← HR2.out]; rfl, hb⟩
        · have hWl : W.length = V.length + 1 := by rw [hV]; simp
          have hcl := hown'.cellAt
          have HCL := Lib.hid hcl
          have HV := Lib.hid hV
          have HWL := Lib.hid hWl
          have hVn : V.length + 1 ≤ 4294967296 := by
            have := tot_length (W.map (·.data.toList))
            rw [List.length_map] at this
            have := HT.out
            omega
          clear hV hcl hown hl hown' hWl
          go_wp2_with fail
          go_loopw [8, 9, 10, 84] (fun v8 _ _ v84 wx => Builds wr W b (s.size + 2) v8 v84 wx) (fun _ _ _ v84 _ => V.length + 1 - (intOf v84).toNat)
          case atStart => exact ⟨⟨#[]⟩, 0, rfl, rfl, Nat.zero_le _, by show 0 ≤ _; omega, ⟨0, rfl⟩, Lib.hid (by rw [out_zero])⟩
          case round =>
            obtain ⟨r, j, rfl, rfl, hj, hr, ⟨nd, rfl⟩, H⟩ := hrel
            have hjV : j ≤ V.length + 1 := by have := HWL.out; omega
            by_cases c1 : j < V.length + 1
            · have hjW : j < W.length := by have := HWL.out; omega
              have hcell : (wr.drewN nd).cell? ⟨g', j, none⟩ = some (.string (W[j])) := by
                have := HCL.out j (by omega)
                rw [← HV.out] at this
                simp [hjW] at this
                simpa using this
              have hj' : j < (W.map (·.data.toList)).length := by simpa using hjW
              have hmore := out_more b (W.map (·.data.toList)) j hj'
              have hnl : (outOf b ((W.map (·.data.toList)).take (j + 1))).length ≤ s.size + 2 := by
                have h1 := out_len b ((W.map (·.data.toList)).take (j + 1))
                have h2 := tot_take (W.map (·.data.toList)) (j + 1)
                have := HT.out
                omega
              obtain ⟨x, hx⟩ : ∃ x, x = W[j] := ⟨_, rfl⟩
              have hxd : (W.map (·.data.toList))[j] = x.data.toList := by rw [List.getElem_map, hx]
              rw [← hx] at hcell
              rw [hxd] at hmore
              have HM := Lib.hid hmore
              have HNL := Lib.hid hnl
              have d3 : decide (j < V.length + 1) = true := decide_eq_true c1
              clear hmore hnl hx hxd hj'
              by_cases hc : 0 < j ∨ b = true
              · have hns : (r ++ ⟨#[47]⟩ ++ x).data.toList = outOf b ((W.map (·.data.toList)).take (j + 1)) := by
                  rw [HM.out, if_pos hc, cat_data, cat_data, H.out]
                have hs2 : (r ++ ⟨#[47]⟩ ++ x).size ≤ s.size + 2 := by rw [size_of, hns]; exact HNL.out
                have hs1 : r.size + 1 + x.size ≤ s.size + 2 := by simpa [show (⟨#[47]⟩ : ByteArray).size = 1 from rfl] using hs2
                have HNS := Lib.hid hns
                clear hns
                by_cases h0 : 0 < j
                · have d0 : decide (0 < j) = true := decide_eq_true h0
                  clear hc
                  go_wp2_with fail
                  go_roundw
                  case rel => exact ⟨_, j + 1, rfl, by go_num, by omega, hs2, ⟨nd, rfl⟩, HNS⟩
                  case measure => simp [intOf]; omega
                · obtain rfl : j = 0 := by omega
                  have hbt : b = true := hc.resolve_left h0
                  subst hbt
                  clear hc h0
                  go_wp2_with fail
                  go_roundw
                  case rel => exact ⟨_, 1, rfl, by go_num, by omega, hs2, ⟨nd, rfl⟩, HNS⟩
                  case measure => simp [intOf] <;> omega
              · have hb0 : b = false := by cases b <;> simp_all
                obtain rfl : j = 0 := by omega
                have hns : (r ++ x).data.toList = outOf b ((W.map (·.data.toList)).take (0 + 1)) := by
                  rw [HM.out, if_neg hc, cat_data, H.out, List.append_nil]
                have hs2 : (r ++ x).size ≤ s.size + 2 := by rw [size_of, hns]; exact HNL.out
                have hs1 : r.size + x.size ≤ s.size + 2 := by simpa using hs2
                have HNS := Lib.hid hns
                subst hb0
                clear hns hc
                go_wp2_with fail
                go_roundw
                case rel => exact ⟨_, 1, rfl, by go_num, by omega, hs2, ⟨nd, rfl⟩, HNS⟩
                case measure => simp [intOf] <;> omega
            · obtain rfl : j = V.length + 1 := by omega
              have d3 : decide (V.length + 1 < V.length + 1) = false := by simp
              have hrd : r.data.toList = outOf b (W.map (·.data.toList)) := by
                rw [H.out, List.take_of_length_le (by rw [List.length_map, HWL.out]; exact Nat.le_refl _)]
              have hfin : norm s.data.toList = if r.data.toList = [] ∨ r.data.toList = [46, 46] then [47] else r.data.toList := by rw [hrd]; exact HNO.out
              have HFIN := Lib.hid hfin
              have hB2 := below_drewN hb nd
              clear hrd hfin H
              by_cases e0 : r.data.toList = []
              · have t0 : r.toList.isEmpty = true := by rw [toL, e0]; rfl
                have hR2 : (⟨#[47]⟩ : ByteArray) = R := by rw [← hR.out, HFIN.out, if_pos (.inl e0)]; rfl
                have HR2 := Lib.hid hR2
                clear hR2 e0
                go_wp2_with fail
                go_ret
                exact ⟨by rw [← HR2.out]; rfl, hB2⟩
              · have t0 : r.toList.isEmpty = false := by rw [toL]; simpa using e0
                by_cases e1 : r.data.toList = [46, 46]
                · have t1 : (r.toList == [46, 46]) = true := by rw [toL, e1]; rfl
                  have hR2 : (⟨#[47]⟩ : ByteArray) = R := by rw [← hR.out, HFIN.out, if_pos (.inr e1)]; rfl
                  have HR2 := Lib.hid hR2
                  clear hR2 e0 e1
                  go_wp2_with fail
                  go_ret
                  exact ⟨by rw [← HR2.out]; rfl, hB2⟩
                · have t1 : (r.toList == [46, 46]) = false := by rw [toL]; exact beq_eq_false_iff_ne.2 e1
                  have hR2 : r = R := by rw [← hR.out, HFIN.out, if_neg (by rintro (h | h); exact e0 h; exact e1 h)]; rfl
                  have HR2 := Lib.hid hR2
                  clear hR2 e0 e1
                  go_wp2_with fail
                  go_ret
                  exact ⟨by rw [← HR2.out]; rfl, hB2⟩
end Mn
end Go.Proofs.Ytfanlhkpblemgaa
