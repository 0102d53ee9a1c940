/- The walks for FnSplitAll: the cut at the first slash, and the law: it gathers what stands between the slashes and cuts a path again and again. -/
import Derived.Test.YtjpahogldfmaeaaRows
import Derived.Test.YtjpahogldfmaeaaShelf
import Derived.Test.YtjpahogldfmaeaaSpPlain
import Derived.Lib.IndexBytes
import Derived.Deep.AppendLies
import Derived.WalkSmall
import Derived.WalkKit
import Derived.ProofKit
import Derived.OpenShut
import Derived.Lib.Hide
import Derived.LoopTactic
import Derived.BigQuiet
import Derived.Deep.QuietTactic
import Derived.WalkSpells
namespace Go.Proofs.Ytjpahogldfmaeaa
open Go.ChangeShapes Go.WideShapes Go.ChangeAt Go.RowKit

set_option maxHeartbeats 400000 in
theorem split_has (s : ByteArray) (n : Nat) (w : World) (hn : n < s.size) (hs : s.size ≤ 1000) (hi : Hid (Lib.indexByte s.data.toList 47 = (n : Int))) :
    Calls Try.prog 18 #[.string s] w fun e w' => e = .returned (.tuple #[.string (s.extract 0 n), .string (s.extract (n + 1) s.size)]) ∧ ∃ k, w.drewN k = w' := by
  have hw1 : IntKind.i64.wrap ((n : Int) + 1) = (n : Int) + 1 := by simp [IntKind.wrap, IntKind.bits, IntKind.signed]; omega
  have h1 : (0 : Int) ≤ (n : Int) + 1 := by omega
  have h2 : ((n : Int) + 1).toNat = n + 1 := by omega
  have h3 : (n : Int) + 1 ≤ (s.size : Int) := by omega
  have H := Lib.hid (And.intro hw1 (And.intro h1 (And.intro h2 h3)))
  clear hw1 h1 h2 h3
  go_enter Try.func18, Try.ntmps18
  go_wp2_with (go_at_call 22; refine (Try.strings_IndexByte _ _ _).mono ?_; rintro e w' ⟨rfl, hw⟩; obtain rfl : w = w' := hw.symm; rw [show Lib.indexByte s.data.toList (Int.toNat 47).toUInt8 = (n : Int) from hi.out])
  obtain ⟨hw1, h1, h2, h3⟩ := H.out
  go_quiet (fail)
  clear hw1 h1 h2 h3
  go_wp2
  go_ret2
  exact ⟨rfl, nq, rfl⟩

set_option maxHeartbeats 400000 in
theorem split_no (s : ByteArray) (w : World) (hi : Hid (Lib.indexByte s.data.toList 47 = -1)) :
    Calls Try.prog 18 #[.string s] w fun e w' => e = .returned (.tuple #[.string s, .string ⟨#[]⟩]) ∧ ∃ k, w.drewN k = w' := by
  go_enter Try.func18, Try.ntmps18
  go_wp2_with (go_at_call 22; refine (Try.strings_IndexByte _ _ _).mono ?_; rintro e w' ⟨rfl, hw⟩; obtain rfl : w = w' := hw.symm; rw [show Lib.indexByte s.data.toList (Int.toNat 47).toUInt8 = -1 from hi.out])
  go_ret2
  exact ⟨rfl, 0, rfl⟩

theorem byte_at (s : ByteArray) (k : Nat) (h : k < s.size) : s.data.toList[k]'(by simpa using h) = s[k] := by simp; rfl
theorem nil_toList : (ByteArray.mk #[]).toList = [] := by rw [ByteArray.toList_eq]
def strB (l : List UInt8) : ByteArray := ⟨l.toArray⟩
theorem strB_eq {l : List UInt8} {s : ByteArray} (h : s.data.toList = l) : strB l = s := by subst h; rfl
theorem strB_data (s : ByteArray) : strB s.data.toList = s := rfl

theorem split_any (s : ByteArray) (w : World) (hs : s.size ≤ 1000) :
    Calls Try.prog 18 #[.string s] w fun e w' => e = .returned (.tuple #[.string (strB (cutA s.data.toList)), .string (strB (cutB s.data.toList))]) ∧ ∃ k, w.drewN k = w' := by
  by_cases h : Lib.indexByte s.data.toList 47 = -1
  · obtain ⟨h1, h2, _⟩ := cut_no h
    rw [h1, h2]
    exact split_no s w h
  · obtain ⟨n, hn⟩ : ∃ n : Nat, Lib.indexByte s.data.toList 47 = (n : Int) := by
      have := Lib.indexByte_ge s.data.toList 47
      exact ⟨(Lib.indexByte s.data.toList 47).toNat, by omega⟩
    obtain ⟨h1, h2, h3, _⟩ := cut_yes hn
    have h4 : n < s.size := by simpa using h3
    rw [h1, h2]
    have e1 : strB (List.take n s.data.toList) = s.extract 0 n := by
      exact strB_eq (by rw [Lib.extract_data]; simp)
    have e2 : strB (List.drop (n + 1) s.data.toList) = s.extract (n + 1) s.size := strB_eq (Lib.extract_to_end _ _)
    rw [e1, e2]
    exact split_has s n w h4 hs hn


theorem door_split (s : ByteArray) (w : World) (hs : s.size ≤ 1000) :
    Calls Try.prog 13 #[.string s] w fun e w' => e = .returned (.tuple #[.string (strB (cutA s.data.toList)), .string (strB (cutB s.data.toList))]) ∧ ∃ k, w.drewN k = w' := by
  go_enter Try.func13, Try.ntmps13
  go_wp2_with (go_at_call 18; refine (split_any _ _ hs).mono ?_; rintro e w' ⟨rfl, k, rfl⟩)
  go_ret2
  exact ⟨rfl, k, rfl⟩

theorem impl_split (s : ByteArray) (w : World) (hs : s.size ≤ 1000) :
    Calls Try.prog 8 #[.string s] w fun e w' => e = .returned (.tuple #[.string (strB (cutA s.data.toList)), .string (strB (cutB s.data.toList))]) ∧ ∃ k, w.drewN k = w' := by
  go_enter Try.func8, Try.ntmps8
  go_wp2_with (go_at_call 13; refine (door_split _ _ hs).mono ?_; rintro e w' ⟨rfl, k, rfl⟩)
  go_ret2
  exact ⟨rfl, k, rfl⟩

theorem Try.info9 : (Try.prog.info? 9).map (fun i => (i.zero, i.size, i.bytes)) = some (some (.string ⟨#[]⟩), 1, 16) := by kernel_rfl

/-- The gathering's relation: f begins the element under way, k is the place. -/
def Gather (B : Nat) (w : World) (s : ByteArray) (v3 v4 v5 : Value) (wr : World) : Prop :=
  ∃ (W : List ByteArray) (f k : Nat), v4 = .int .i64 f ∧ v5 = .int .i64 k ∧ f ≤ k ∧ k ≤ s.size + 1 ∧ wr.ownsRow B 9 1 v3 W.length (W.map Value.string) ∧ W.length ≤ k ∧ Below B w wr ∧
    Hid ((k ≤ s.size ∧ (∀ x ∈ (s.data.toList.drop f).take (k - f), x ≠ 47) ∧ W.map (·.data.toList) ++ segs (s.data.toList.drop f) = segs s.data.toList) ∨ (k = s.size + 1 ∧ W.map (·.data.toList) = segs s.data.toList))

/-- The cutting's relation: j elements are cut off, r is what is left. -/
def Cutting (W : List ByteArray) (wr : World) (v6 v48 : Value) (wx : World) : Prop :=
  ∃ (j : Nat) (r : ByteArray), v6 = .string r ∧ v48 = .int .i64 j ∧ j ≤ W.length ∧ r.size ≤ 1000 ∧ (∃ n, wr.drewN n = wx) ∧ Hid ((j < W.length ∧ (W.map (·.data.toList)).drop j = segs r.data.toList) ∨ (j = W.length ∧ r.data.toList = []))

set_option maxHeartbeats 1000000 in
theorem law_short (s : ByteArray) (w : World) (hs : s.size ≤ 1000) :
    Calls Try.prog 3 #[.string s] w fun e w' => e = .returned (.bool true) ∧ Below w.heap.size w w' := by
  obtain ⟨i0, hi, hz0, hz1, hz2⟩ := info_parts Try.info9
  go_enter Try.func3, Try.ntmps3
  go_wp2
  go_loopw [3, 4, 5] (fun v3 v4 v5 wr => Gather w.heap.size w s v3 v4 v5 wr) (fun _ _ v5 _ => 1002 - (intOf v5).toNat)
  case atStart => exact ⟨[], 0, 0, rfl, rfl, by omega, by omega, World.ownsRow_made w #[] 0 (Nat.le_refl _) (by decide) rfl, by simp, (Below.refl _ _).alloc (Nat.le_refl _) _, .inl ⟨by omega, by simp, by simp⟩⟩
  case round =>
    obtain ⟨W, f, k, rfl, rfl, hf, hk, hown, hW, hb, H⟩ := hrel
    by_cases c1 : k < s.size
    · have cb : ((k : Int) == (s.size : Int)) = false := by simp; omega
      by_cases c3 : (s[k].toNat : Int) = 47
      · have c3b : ((s[k].toNat : Int) == 47) = true := by simpa using c3
        clear c3
        go_wp2_with (at_builtin; refine wpList_append_own _ rfl _ _ 22 rfl w.heap.size 9 i0 (.string ⟨#[]⟩) 1 16 Try.underlying22 hi hz0 hz1 hz2 rfl (by decide) _ _ _ rfl (hown.alloc _) ⟨wr.heap.size, 0, none⟩ 1 1 [.string (s.extract f k)] rfl rfl (cell_one_new _ _ _) (by intro u hu; simp at hu; subst hu; rfl) (by unfold maxLen; omega) (by omega) (by have := hb.size; simp; omega) ?_; intro v' w1 hown1 hgrow1 _)
        have hk' : k < s.data.toList.length := by simpa using c1
        have e47 : s.data.toList[k] = 47 := by have := beq_iff_eq.1 c3b; rw [byte_at s k c1]; apply UInt8.toNat_inj.1; show s[k].toNat = 47; omega
        go_roundw
        case rel =>
          rcases H.out with ⟨h1, h2, h3⟩ | ⟨h1, _⟩
          · exact ⟨W ++ [s.extract f k], k + 1, k + 1, by go_num, by go_num, by omega, by omega, by simpa using hown1, by simp; omega, (hb.alloc hb.size _).grown hgrow1 (by simp; have := hb.size; omega) (fun g hg => (hown.lt g hg).1), Lib.hid (.inl ⟨by omega, by simp, by
              rw [segs_step hf hk' h2 e47] at h3
              simp only [List.map_append, List.map_cons, List.map_nil, Lib.extract_data, List.append_assoc, List.singleton_append]
              exact h3⟩)⟩
          · omega
        case measure => simp [intOf]; omega
      · have c3b : ((s[k].toNat : Int) == 47) = false := by simpa using c3
        clear c3
        go_wp2
        have hk' : k < s.data.toList.length := by simpa using c1
        have e47 : s.data.toList[k] ≠ 47 := by
          have := beq_eq_false_iff_ne.1 c3b
          intro h
          apply this
          rw [← byte_at s k c1, h]; rfl
        go_roundw
        case rel =>
          rcases H.out with ⟨h1, h2, h3⟩ | ⟨h1, _⟩
          · exact ⟨W, f, k + 1, rfl, by go_num, by omega, by omega, hown, by omega, hb, Lib.hid (.inl ⟨by omega, clean_step hf hk' h2 e47, h3⟩)⟩
          · omega
        case measure => simp [intOf]; omega
    · by_cases c2 : k = s.size
      · subst c2
        go_wp2_with (at_builtin; refine wpList_append_own _ rfl _ _ 22 rfl w.heap.size 9 i0 (.string ⟨#[]⟩) 1 16 Try.underlying22 hi hz0 hz1 hz2 rfl (by decide) _ _ _ rfl (hown.alloc _) ⟨wr.heap.size, 0, none⟩ 1 1 [.string (s.extract f s.size)] rfl rfl (cell_one_new _ _ _) (by intro u hu; simp at hu; subst hu; rfl) (by unfold maxLen; omega) (by omega) (by have := hb.size; simp; omega) ?_; intro v' w1 hown1 hgrow1 _)
        go_roundw
        case rel =>
          rcases H.out with ⟨h1, h2, h3⟩ | ⟨h1, _⟩
          · exact ⟨W ++ [s.extract f s.size], s.size + 1, s.size + 1, by go_num, by go_num, by omega, by omega, by simpa using hown1, by simp; omega, (hb.alloc hb.size _).grown hgrow1 (by simp; have := hb.size; omega) (fun g hg => (hown.lt g hg).1), Lib.hid (.inr ⟨by omega, by
              have hl : s.size = s.data.toList.length := by simp
              rw [hl] at h2
              rw [segs_last h2] at h3
              simp only [List.map_append, List.map_cons, List.map_nil, Lib.extract_data, hl]
              exact h3⟩)⟩
          · omega
        case measure => simp [intOf]; omega
      · have hW' : W.map (·.data.toList) = segs s.data.toList := by
          rcases H.out with ⟨h1, _⟩ | ⟨_, h⟩
          · omega
          · exact h
        have hpos : 0 < W.length := by
          have h1 := segs_ne s.data.toList
          rw [← hW'] at h1
          cases W with
          | nil => simp at h1
          | cons x xs => simp
        obtain ⟨g, cap, rfl, hg1, hg2⟩ := World.ownsRow.form hown hpos
        have hWk : W.length ≤ 1001 := by omega
        have HW := Lib.hid hW'
        have hdk : decide (k ≤ s.size) = false := by simp; omega
        clear hW' H
        go_wp2
        go_loopw [6, 48] (fun v6 v48 wx => Cutting W wr v6 v48 wx) (fun _ v48 _ => W.length - (intOf v48).toNat)
        case atStart => exact ⟨0, s, rfl, rfl, by omega, hs, ⟨0, rfl⟩, .inl ⟨hpos, HW.out⟩⟩
        case round =>
          obtain ⟨j, r, rfl, rfl, hj, hr, ⟨nd, rfl⟩, H⟩ := hrel
          by_cases hlt : j < W.length
          · obtain ⟨h1, h2⟩ : j < W.length ∧ (W.map (·.data.toList)).drop j = segs r.data.toList := by
              rcases H.out with h | ⟨h, _⟩
              · exact h
              · omega
            rw [List.drop_eq_getElem_cons (by simpa using hlt), segs_eq, List.cons.injEq] at h2
            obtain ⟨h2, h3⟩ := h2
            have hcell : (wr.drewN nd).cell? ⟨g, j, none⟩ = some (.string (W[j])) := by
              have := hown.cellAt j (by omega)
              simp [hlt] at this
              simpa using this
            rw [List.getElem_map] at h2
            have ex : strB (cutA r.data.toList) = W[j] := strB_eq h2
            generalize W[j] = x at *
            generalize hm : strB (cutB r.data.toList) = m at *
            have hms : m.data.toList = cutB r.data.toList := by rw [← hm]; rfl
            by_cases hlast : j + 1 < W.length
            · have hne : Lib.indexByte r.data.toList 47 ≠ -1 := by
                intro h
                rw [if_pos h] at h3
                simp at h3; omega
              rw [if_neg hne] at h3
              have hl := cut_len hne
              have e1 : (cutB r.data.toList).length = m.size := by rw [← hms]; simp
              have e2 : (cutA r.data.toList).length = x.size := by rw [← h2]; simp
              have e3 : r.data.toList.length = r.size := by simp
              rw [e1, e2, e3] at hl
              have hsz1 : x.size + 1 ≤ r.size := by omega
              have hsz2 : m.size ≤ r.size := by omega
              have hsz : ((m.size : Int) == (r.size : Int) - (x.size : Int) - 1) = true := by simp; omega
              have hszn : ((m.size : Int) != (r.size : Int) - (x.size : Int) - 1) = false := by simp; omega
              have ht1 : decide ((j : Int) < (W.length : Int) - 1) = true := by simp; omega
              have ht2 : ((j : Int) == (W.length : Int) - 1) = false := by simp; omega
              rw [← hms] at h3
              have HH := Lib.hid (And.intro ex (And.intro hm h3))
              clear ex hm h3 h2 hms hne e1 e2 e3 hl H
              go_wp2_with (go_at_call 8; refine (impl_split _ _ hr).mono ?_; rw [HH.out.1, HH.out.2.1]; rintro e w' ⟨rfl, kq, rfl⟩)
              go_roundw
              case rel => exact ⟨j + 1, m, rfl, by go_num, by omega, by omega, ⟨nd + kq, by simp⟩, Lib.hid (.inl ⟨hlast, HH.out.2.2⟩)⟩
              case measure => simp [intOf]; omega
            · have hjw : j + 1 = W.length := by omega
              have hyes : Lib.indexByte r.data.toList 47 = -1 := by
                by_cases h : Lib.indexByte r.data.toList 47 = -1
                · exact h
                · rw [if_neg h, List.drop_of_length_le (by simp; omega)] at h3
                  exact absurd h3.symm (segs_ne _)
              obtain ⟨_, hb2, _⟩ := cut_no hyes
              rw [hb2] at hms
              have ht1 : decide ((j : Int) < (W.length : Int) - 1) = false := by simp; omega
              have ht2 : ((j : Int) == (W.length : Int) - 1) = true := by simp; omega
              have hm0 : m = ⟨#[]⟩ := by
                have := strB_data m
                rw [hms] at this
                exact this.symm
              have HH := Lib.hid (And.intro ex (And.intro hm (And.intro hjw (And.intro hm0 hms))))
              have hm1 : m.toList = [] := by rw [hm0]; exact nil_toList
              have hm2 : m.size ≤ 1000 := by rw [hm0]; decide
              clear ex hm h3 h2 hms hyes hb2 H hjw hlast hm0
              go_wp2_with (go_at_call 8; refine (impl_split _ _ hr).mono ?_; rw [HH.out.1, HH.out.2.1]; rintro e w' ⟨rfl, kq, rfl⟩)
              go_roundw
              case rel => exact ⟨j + 1, m, rfl, by go_num, by omega, hm2, ⟨nd + kq, by simp⟩, Lib.hid (.inr ⟨HH.out.2.2.1, HH.out.2.2.2.2⟩)⟩
              case measure => simp [intOf]; omega
          · have hjn : j = W.length := by omega
            have hr0 : r.data.toList = [] := by
              rcases H.out with ⟨h, _⟩ | ⟨_, h⟩
              · omega
              · exact h
            obtain rfl : r = ⟨#[]⟩ := by
              have := strB_data r
              rw [hr0] at this
              exact this.symm
            clear hr0 H hr
            have ec : strB (cutA (ByteArray.mk #[97, 47, 98]).data.toList) = ⟨#[97]⟩ := by decide
            have HE := Lib.hid ec
            clear ec
            go_wp2_with (go_at_call 8; refine (impl_split _ _ (by decide)).mono ?_; rw [HE.out]; rintro e w' ⟨rfl, kq, rfl⟩)
            go_ret
            exact ⟨rfl, below_drewN hb _⟩


theorem law_walk (s : ByteArray) (_w0 : s.size ≤ maxLen) (w : World) :
    Calls Try.prog 3 #[.string s] w fun e w' => e = .returned (.bool true) ∧ Below w.heap.size w w' := by
  by_cases h1 : s.size ≤ 1000
  · exact law_short s w h1
  · by_cases h2 : 2147483647 < s.size
    · go_enter Try.func3, Try.ntmps3
      go_wp2
      go_ret
      exact ⟨rfl, Below.refl _ _⟩
    · go_enter Try.func3, Try.ntmps3
      go_wp2
      go_ret
      exact ⟨rfl, Below.refl _ _⟩

end Go.Proofs.Ytjpahogldfmaeaa
