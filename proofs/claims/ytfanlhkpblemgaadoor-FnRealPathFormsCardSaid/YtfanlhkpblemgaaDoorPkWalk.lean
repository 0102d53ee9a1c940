/- The walks of the specification's paths: Clean. -/
import Derived.Test.YtfanlhkpblemgaaDoorPjWalk
namespace Go.Proofs.YtfanlhkpblemgaaDoor
open Go.ChangeShapes Go.WideShapes Go.ChangeAt Go.RowKit Go.Rd Go.Pt

def Cleans (E : List ByteArray) (w1 : World) (b : Bool) (S : List (List UInt8)) (v3 v9 : Value) (wr : World) : Prop :=
  ∃ (W : List ByteArray) (j : Nat), v9 = .int .i64 j ∧ j ≤ E.length ∧ wr.ownsRow w1.heap.size 9 1 v3 W.length (W.map Value.string) ∧ W.length ≤ j ∧ Below w1.heap.size w1 wr ∧
    Hid (Keeps b (W.map (·.data.toList)) ((E.map (·.data.toList)).drop j) S)

theorem row_end {w : World} {B : Nat} {v : Value} {W : List ByteArray} (h : w.ownsRow B 9 1 v W.length (W.map Value.string)) : (W = [] ∧ v = .slice none 0 0) ∨ (∃ g cap, W = [] ∧ v = .slice (some ⟨g, 0, none⟩) 0 cap) ∨
    ∃ V y g cap, W = V ++ [y] ∧ v = .slice (some ⟨g, 0, none⟩) (V.length + 1) cap ∧ w.cell? ⟨g, V.length, none⟩ = some (.string y) ∧ (V.length + 1 ≤ cap ∧ cap ≤ maxLen) ∧ w.ownsRow B 9 1 (.slice (some ⟨g, 0, none⟩) (V.length + 1) cap) (V.length + 1) ((V ++ [y]).map Value.string) := by
  rcases List.eq_nil_or_concat W with rfl | ⟨V, y, rfl⟩
  · rcases h.2 with ⟨h1, _⟩ | ⟨g, cap, cur, hv, _⟩
    · exact .inl ⟨rfl, h1⟩
    · exact .inr (.inl ⟨g, cap, rfl, hv⟩)
  · obtain ⟨g, cap, hv, h1, h2⟩ : ∃ g cap, v = .slice (some ⟨g, 0, none⟩) (V.concat y).length cap ∧ (V.concat y).length ≤ cap ∧ cap ≤ maxLen := by
      rcases h.2 with ⟨_, h0⟩ | ⟨g, cap, cur, hv, _, _, h1, h2, _⟩
      · simp at h0
      · exact ⟨g, cap, hv, h1, h2⟩
    subst hv
    have hl : (V.concat y).length = V.length + 1 := by simp
    rw [hl] at h h1 ⊢
    rw [List.concat_eq_append] at h ⊢
    refine .inr (.inr ⟨V, y, g, cap, rfl, rfl, ?_, ⟨h1, h2⟩, h⟩)
    have := h.cellAt V.length (by omega)
    simpa using this

set_option maxHeartbeats 2000000 in
theorem clean_any (s : ByteArray) (w : World) (hs : s.size ≤ 4000) (R : ByteArray) (hR : Hid (strB (Go.Lib.Pa.cleanEls s.data.toList) = R)) :
    Calls Tryd.prog 14 #[.string s] w fun e w' => e = .returned (.string R) ∧ Below w.heap.size w w' := by
  obtain ⟨i0, hi, hz0, hz1, hz2⟩ := info_parts Tryd.info9
  obtain ⟨b, hb0⟩ : ∃ b, b = (s.data.toList.head? == some 47) := ⟨_, rfl⟩
  have Hb := Lib.hid hb0
  obtain ⟨S, hS⟩ : ∃ S, S = (Go.Lib.Pa.els s.data.toList).foldl (Go.Lib.Pa.cleanStep b) [] := ⟨_, rfl⟩
  have HS := Lib.hid hS
  clear hb0 hS
  go_enter Tryd.func14, Tryd.ntmps14
  go_wp2_with (go_at_call 13; refine (elements_any _ _ hs).mono ?_; rintro e w1 ⟨g, cap, E, rfl, hE, hb1, HE⟩)
  have HL := Lib.hid (show E.length ≤ 4001 by
    have h1 := nels_len s.data.toList
    rw [← HE.out, List.length_map, ← size_of] at h1
    omega)
  have hLn : E.length ≤ 4001 := HL.out
  go_loopw [3, 9] (fun v3 v9 wr => Cleans E w1 b S v3 v9 wr) (fun _ v9 _ => E.length - (intOf v9).toNat)
  case atStart => exact ⟨[], 0, rfl, by omega, World.ownsRow_nil _ _ _ _, by simp, Below.refl _ _, Lib.hid (by rw [HE.out, List.drop_zero, HS.out]; exact keeps_start b _)⟩
  case round =>
    obtain ⟨W, j, rfl, hj, hown, hW, hb, H⟩ := hrel
    by_cases c1 : j < E.length
    · have hcell : wr.cell? ⟨g, j, none⟩ = some (.string (E[j])) := by
        have h1 := hE.cellAt j (by omega)
        rw [hb.cell (hE.lt g rfl).2, h1]
        simp [c1]
      have hd := H.out
      rw [List.drop_eq_getElem_cons (by simpa using c1), List.getElem_map] at hd
      have HD := Lib.hid hd
      clear hd H
      generalize E[j] = x at *
      have d1 : decide (j < E.length) = true := by simpa using c1
      by_cases e1 : x.data.toList = [46]
      · have t1 : (x.toList == [46]) = true := by rw [toL, e1]; rfl
        have HN := Lib.hid (keeps_dot (by rw [← e1]; exact HD.out))
        clear e1
        go_wp2
        go_roundw
        case rel => exact ⟨W, j + 1, by go_num, by omega, hown, by omega, hb, HN⟩
        case measure => simp [intOf]; omega
      · have t1 : (x.toList == [46]) = false := by rw [toL]; exact beq_eq_false_iff_ne.2 e1
        by_cases e2 : x.data.toList = [46, 46]
        · have t2 : (x.toList == [46, 46]) = true := by rw [toL, e2]; rfl
          have HD2 := Lib.hid (show Keeps b (W.map (·.data.toList)) ([46, 46] :: (E.map (·.data.toList)).drop (j + 1)) S by rw [← e2]; exact HD.out)
          have E2 := Lib.hid e2
          clear e1 e2
          rcases row_end hown with ⟨rfl, rfl⟩ | ⟨g', cap', rfl, rfl⟩ | ⟨V, y, g', cap', rfl, rfl, hl, hcap, hown'⟩
          · cases b with
            | true =>
              have HN := Lib.hid (keeps_top HD2.out (.inl rfl))
              go_wp2_with (go_at_call 12; refine (rooted_any _ _).mono ?_; rintro e w' ⟨rfl, rfl⟩; rw [← Hb.out])
              go_roundw
              case rel => exact ⟨_, j + 1, by go_num, by omega, hown, by omega, hb, HN⟩
              case measure => simp [intOf]; omega
            | false =>
              have HN := Lib.hid (keeps_dots HD2.out (.inl rfl))
              go_wp2_with (first | (go_at_call 12; refine (rooted_any _ _).mono ?_; rintro e w' ⟨rfl, rfl⟩; rw [← Hb.out]) | (at_builtin; refine wpList_append_own _ rfl _ _ 33 rfl w1.heap.size 9 i0 (.string ⟨#[]⟩) 1 16 Tryd.underlying33 hi hz0 hz1 hz2 rfl (by decide) _ _ _ rfl (hown.alloc _) ⟨wr.heap.size, 0, none⟩ 1 1 [.string x] rfl rfl (cell_one_new _ _ _) (by intro u hu; simp at hu; subst hu; rfl) (by unfold maxLen; omega) (by omega) (by have := hb.size; simp; omega) ?_; intro v' w2 hown1 hgrow1 _))
              go_roundw
              case rel => exact ⟨([] : List ByteArray) ++ [x], j + 1, by go_num, by omega, by simpa using hown1, by simp; try omega, (hb.alloc hb.size _).grown hgrow1 (by simp; have := hb.size; omega) (fun g hg => (hown.lt g hg).1), Lib.hid (by rw [List.map_append]; have := HN.out; rw [← E2.out] at this; exact this)⟩
              case measure => simp [intOf]; omega
          · cases b with
            | true =>
              have HN := Lib.hid (keeps_top HD2.out (.inl rfl))
              go_wp2_with (go_at_call 12; refine (rooted_any _ _).mono ?_; rintro e w' ⟨rfl, rfl⟩; rw [← Hb.out])
              go_roundw
              case rel => exact ⟨_, j + 1, by go_num, by omega, hown, by omega, hb, HN⟩
              case measure => simp [intOf]; omega
            | false =>
              have HN := Lib.hid (keeps_dots HD2.out (.inl rfl))
              go_wp2_with (first | (go_at_call 12; refine (rooted_any _ _).mono ?_; rintro e w' ⟨rfl, rfl⟩; rw [← Hb.out]) | (at_builtin; refine wpList_append_own _ rfl _ _ 33 rfl w1.heap.size 9 i0 (.string ⟨#[]⟩) 1 16 Tryd.underlying33 hi hz0 hz1 hz2 rfl (by decide) _ _ _ rfl (hown.alloc _) ⟨wr.heap.size, 0, none⟩ 1 1 [.string x] rfl rfl (cell_one_new _ _ _) (by intro u hu; simp at hu; subst hu; rfl) (by unfold maxLen; omega) (by omega) (by have := hb.size; simp; omega) ?_; intro v' w2 hown1 hgrow1 _))
              go_roundw
              case rel => exact ⟨([] : List ByteArray) ++ [x], j + 1, by go_num, by omega, by simpa using hown1, by simp; try omega, (hb.alloc hb.size _).grown hgrow1 (by simp; have := hb.size; omega) (fun g hg => (hown.lt g hg).1), Lib.hid (by rw [List.map_append]; have := HN.out; rw [← E2.out] at this; exact this)⟩
              case measure => simp [intOf]; omega
          · have hVl : (V ++ [y]).length = V.length + 1 := by simp
            by_cases e3 : y.data.toList = [46, 46]
            · have t3 : (y.toList == [46, 46]) = true := by rw [toL, e3]; rfl
              have HV := Lib.hid (show (V ++ [y]).map (·.data.toList) = V.map (·.data.toList) ++ [[46, 46]] by rw [List.map_append]; simp [e3])
              clear e3
              cases b with
              | true =>
                have HN := Lib.hid (keeps_top HD2.out (.inr ⟨_, HV.out⟩))
                go_wp2_with (go_at_call 12; refine (rooted_any _ _).mono ?_; rintro e w' ⟨rfl, rfl⟩; rw [← Hb.out])
                go_roundw
                case rel => exact ⟨_, j + 1, by go_num, by omega, hown, by omega, hb, HN⟩
                case measure => simp [intOf]; omega
              | false =>
                have HN := Lib.hid (keeps_dots HD2.out (.inr ⟨_, HV.out⟩))
                go_wp2_with (first | (go_at_call 12; refine (rooted_any _ _).mono ?_; rintro e w' ⟨rfl, rfl⟩; rw [← Hb.out]) | (at_builtin; refine wpList_append_own _ rfl _ _ 33 rfl w1.heap.size 9 i0 (.string ⟨#[]⟩) 1 16 Tryd.underlying33 hi hz0 hz1 hz2 rfl (by decide) _ _ _ rfl (hown.alloc _) ⟨wr.heap.size, 0, none⟩ 1 1 [.string x] rfl rfl (cell_one_new _ _ _) (by intro u hu; simp at hu; subst hu; rfl) (by unfold maxLen; omega) (by omega) (by have := hb.size; simp; omega) ?_; intro v' w2 hown1 hgrow1 _))
                go_roundw
                case rel => exact ⟨(V ++ [y]) ++ [x], j + 1, by go_num, by omega, by simpa using hown1, by simp; try omega, (hb.alloc hb.size _).grown hgrow1 (by simp; have := hb.size; omega) (fun g hg => (hown.lt g hg).1), Lib.hid (by rw [List.map_append]; have := HN.out; rw [← E2.out] at this; exact this)⟩
                case measure => simp [intOf]; omega
            · have t3 : (y.toList == [46, 46]) = false := by rw [toL]; exact beq_eq_false_iff_ne.2 e3
              have HN := Lib.hid (keeps_up (by rw [List.map_append] at HD2; exact HD2.out) e3)
              have hpop := ownsRow_pop (size := 1) (n := V.length) (xs := V.map Value.string) (last := [.string y]) (by simp) (by rw [List.map_append] at hown'; exact hown')
              clear e3 hown
              rw [hVl] at hW
              clear hVl hown' HD2 HD E2
              have q1 : ((V.length + 1 : Nat) : Int) - 1 = (V.length : Int) := by omega
              go_wp2
              go_roundw
              case rel => exact ⟨V, j + 1, by go_num, by omega, hpop, by omega, hb, HN⟩
              case measure => simp [intOf]; omega
        · have t2 : (x.toList == [46, 46]) = false := by rw [toL]; exact beq_eq_false_iff_ne.2 e2
          have HN := Lib.hid (keeps_more HD.out e1 e2)
          clear e1 e2
          go_wp2_with (at_builtin; refine wpList_append_own _ rfl _ _ 33 rfl w1.heap.size 9 i0 (.string ⟨#[]⟩) 1 16 Tryd.underlying33 hi hz0 hz1 hz2 rfl (by decide) _ _ _ rfl (hown.alloc _) ⟨wr.heap.size, 0, none⟩ 1 1 [.string x] rfl rfl (cell_one_new _ _ _) (by intro u hu; simp at hu; subst hu; rfl) (by unfold maxLen; omega) (by omega) (by have := hb.size; simp; omega) ?_; intro v' w2 hown1 hgrow1 _)
          go_roundw
          case rel => exact ⟨W ++ [x], j + 1, by go_num, by omega, by simpa using hown1, by simp; omega, (hb.alloc hb.size _).grown hgrow1 (by simp; have := hb.size; omega) (fun g hg => (hown.lt g hg).1), Lib.hid (by rw [List.map_append]; exact HN.out)⟩
          case measure => simp [intOf]; omega
    · have HW := Lib.hid (show W.map (·.data.toList) = S.reverse from keeps_end (by
        have := H.out
        rw [List.drop_of_length_le (by simp; omega)] at this
        exact this))
      have HT := Lib.hid (show tot (W.map (·.data.toList)) ≤ 8000 by
        have h1 := tot_stack b s.data.toList
        rw [HW.out, HS.out]
        rw [← size_of] at h1
        exact Nat.le_trans h1 (by omega))
      have HR := Lib.hid (show (if b = true then strB (47 :: inter (W.map (·.data.toList))) else if W.map (·.data.toList) = [] then strB [46] else strB (inter (W.map (·.data.toList)))) = R by
        rw [← hR.out, cleanEls_of s.data.toList (W.map (·.data.toList)) (by rw [HW.out, HS.out, Hb.out]) (by rw [HW.out, HS.out]; exact stack_ne _ _), ← Hb.out]
        split
        · rfl
        · split <;> rfl)
      obtain ⟨Q, hQ⟩ : ∃ Q, Q = strB (inter (W.map (·.data.toList))) := ⟨_, rfl⟩
      have hQs : Q.size ≤ 8000 := by
        rw [hQ, size_of, strB_data]
        exact Nat.le_trans (tot_inter _) HT.out
      have HQ := Lib.hid hQ
      have d1 : decide (j < E.length) = false := by simpa using c1
      have hbw := (hb1.trans (hb.mono hb1.size))
      clear hQ H HW hW
      cases b with
      | true =>
        have HR2 := Lib.hid (show (⟨#[47]⟩ ++ Q : ByteArray) = R by
          rw [← HR.out, if_pos rfl, HQ.out]
          exact eqB (by rw [cat_data]; rfl))
        clear HR
        go_wp2_with (first | (go_at_call 12; refine (rooted_any _ _).mono ?_; rintro e w' ⟨rfl, rfl⟩; rw [← Hb.out]) | (go_at_call 33; refine (joined_any W _ 8000 _ _ hown (Nat.le_refl _) HT).mono ?_; rw [← HQ.out]; rintro e w' ⟨rfl, nd, rfl⟩))
        go_ret
        exact ⟨by rw [← HR2.out]; rfl, below_drewN hbw nd⟩
      | false =>
        rcases row_end hown with ⟨rfl, rfl⟩ | ⟨g', cap', rfl, rfl⟩ | ⟨V, y, g', cap', rfl, rfl, hl, hcap, hown'⟩
        · have HR2 := Lib.hid (show strB [46] = R by rw [← HR.out]; rfl)
          clear HR
          go_wp2_with (go_at_call 12; refine (rooted_any _ _).mono ?_; rintro e w' ⟨rfl, rfl⟩; rw [← Hb.out])
          go_ret
          exact ⟨by rw [← HR2.out]; rfl, hbw⟩
        · have HR2 := Lib.hid (show strB [46] = R by rw [← HR.out]; rfl)
          clear HR
          go_wp2_with (go_at_call 12; refine (rooted_any _ _).mono ?_; rintro e w' ⟨rfl, rfl⟩; rw [← Hb.out])
          go_ret
          exact ⟨by rw [← HR2.out]; rfl, hbw⟩
        · have HR2 := Lib.hid (show Q = R by rw [← HR.out, HQ.out, if_neg (by decide), if_neg (by simp)])
          have HO := Lib.hid hown'
          clear HR hl hcap hown hown' hQs
          have d2 : (V.length + 1 == 0) = false := by simp
          have d3 : (((V.length + 1 : Nat) : Int) == 0) = false := by apply beq_eq_false_iff_ne.2; omega
          have d4 : ((V.length : Int) + 1 == 0) = false := by apply beq_eq_false_iff_ne.2; omega
          go_wp2_with (first | (go_at_call 12; refine (rooted_any _ _).mono ?_; rintro e w' ⟨rfl, rfl⟩; rw [← Hb.out]; clear hj c1 d1 hLn HL) | (go_at_call 33; refine (joined_any (V ++ [y]) _ 8000 (.slice (some ⟨g', 0, none⟩) (V.length + 1) cap') _ (by rw [List.length_append]; exact HO.out) (Nat.le_refl _) HT).mono ?_; rw [← HQ.out]; rintro e w' ⟨rfl, nd, rfl⟩))
          go_ret
          exact ⟨by rw [← HR2.out]; rfl, below_drewN hbw nd⟩
end Go.Proofs.YtfanlhkpblemgaaDoor
