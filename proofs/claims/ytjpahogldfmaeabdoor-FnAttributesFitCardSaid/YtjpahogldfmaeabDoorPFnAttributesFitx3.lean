-- PRINTED BY print.sh 35421559b90ae4d0a3588c463048766b98c2df88dd9212a6774a882060cdf62d: not written by this session
import Derived.Test.YtjpahogldfmaeabDoorPFnAttributesFitx0
import Derived.Test.YtjpahogldfmaeabDoorPFnAttributesFitx1
import Derived.Test.YtjpahogldfmaeabDoorPFnAttributesFitx2
namespace Go.Proofs.YtjpahogldfmaeabDoor.PFnAttributesFit
open Go.RowKit Go.Proofs.YtjpahogldfmaeabDoorW.PrintWords Go.Proofs.YtjpahogldfmaeabDoorW.PrintLast Go.Proofs.YtjpahogldfmaeabDoorW.PrintMore
attribute [local go_sem] max2_int min2_int max_two min_two max_three min_three max_four min_four   -- for this text's walks alone
set_option linter.unusedVariables false
set_option linter.unusedSimpArgs false

/-! ### laws_dupXattrs: function 7 -/
def laws_dupXattrs.l0 : Nat → List (S34) → List (S34) → Int → Int → Option ((List (S34)))
  | 0, _, _, _, _ => none
  | k + 1, x3, x6, x7, x8 => if x8 < x7 then (if 0 ≤ x8 then (if x8 < (x6.length : Int) then ((laws_dup.f ((rd_T34 x6 x8).f1)).bind fun t141 => (if x3.length < 3518437208883 then (laws_dupXattrs.l0 k (x3 ++ [(⟨(rd_T34 x6 x8).f0, t141⟩ : S34)]) x6 x7 (wrap64 (x8 + 1))) else (none))) else (none)) else (none)) else (some x3)
def laws_dupXattrs.f (k : Nat) (l0 : List (S34)) : Option ((List (S34))) := laws_dupXattrs.l0 k ([] : List (S34)) l0 (l0.length : Int) 0
theorem laws_dupXattrs.mono_l : ∀ k, (∀ y0 y1 y2 y3, LeO (laws_dupXattrs.l0 k y0 y1 y2 y3) (laws_dupXattrs.l0 (k + 1) y0 y1 y2 y3))
  | 0 => fun _ _ _ _ r h => by simp [laws_dupXattrs.l0] at h
  | k + 1 => by
    have ih0 := laws_dupXattrs.mono_l k
    · intro y0 y1 y2 y3
      unfold laws_dupXattrs.l0
      repeat' first
      | (with_reducible exact ih0 _ _ _ _)
      | (with_reducible exact LeO.refl _)
      | (with_reducible exact LeO.none _)
      | (with_reducible refine LeO.ite ?_ ?_)
      | (with_reducible refine LeO.bind ?_ (fun _ => ?_))
      | exact ih0 _ _ _ _
      | exact LeO.none _
      | refine LeO.ite ?_ ?_
      | refine LeO.bind ?_ (fun _ => ?_)
theorem laws_dupXattrs.mono : ∀ a0 k, LeO (laws_dupXattrs.f k a0) (laws_dupXattrs.f (k + 1) a0) := by
  intro a0 k
  have ih0 := laws_dupXattrs.mono_l k
  unfold laws_dupXattrs.f
  repeat' first
      | (with_reducible exact ih0 _ _ _ _)
      | (with_reducible exact LeO.refl _)
      | (with_reducible exact LeO.none _)
      | (with_reducible refine LeO.ite ?_ ?_)
      | (with_reducible refine LeO.bind ?_ (fun _ => ?_))
      | exact ih0 _ _ _ _
      | exact LeO.none _
      | refine LeO.ite ?_ ?_
      | refine LeO.bind ?_ (fun _ => ?_)
def laws_dupXattrs.T5 : Bool × List (List Nat × List Nat) := (true, [([], []), ([], []), ([1], [1]), ([], []), ([3], [3]), ([4], [4]), ([2, 5], [2, 5]), ([6], [6]), ([0, 7, 5], [0, 7]), ([8, 8, 0, 1, 2, 3, 4, 5, 6, 7, 8], [0, 8])])
def laws_dupXattrs.B5 : List Nat := [0, 0, 2, 0, 8, 24, 62, 126, 255, 511]
theorem laws_dupXattrs.tab5 : rtab .any (opsOf Tryd.f7 5) = laws_dupXattrs.T5 := by kernel_rfl
theorem laws_dupXattrs.bits5 : waitsOk laws_dupXattrs.T5.2 laws_dupXattrs.B5 = true := by kernel_rfl
set_option maxHeartbeats 8000000 in
set_option maxRecDepth 100000 in
theorem laws_dupXattrs.calls (k : Nat) (A0 : Option Addr) (c0 : Nat) (l0 : List (S34)) (r : List (S34)) (w : World) (hr0 : Kd.C k34 w A0 l0.length l0) (hc0 : l0.length ≤ c0) (h : laws_dupXattrs.f k l0 = some r) :
    Calls Tryd.prog 7 #[.slice A0 l0.length c0] w fun e w' => ∃ v0_ : Value, e = .returned (v0_) ∧ Kd.S k34 34 w' w.heap.size (fun _ => True) v0_ r ∧ Below w.heap.size w w' := by
  have hu34 := Tryd.underlying34
  have HR0 := Aside0.mk hr0
  have HC0 := Aside0.mk hc0
  clear hr0 hc0
  have HB := Aside0.mk (Below.refl w.heap.size w)
  have H : (laws_dupXattrs.l0 k ([] : List (S34)) l0 (l0.length : Int) 0) = some r := h
  clear h
  have H' := Aside0.mk H
  clear H
  go_enter Tryd.func7, Tryd.ntmps7
  go_wp2
  go_loopg [3, 8] k (fun kq v3 v8 w' => ∃ (x3_1 : List (S34)) (x8_1 : Int), v8 = .int .i64 x8_1 ∧ Aside0 (laws_dupXattrs.l0 kq x3_1 l0 (l0.length : Int) x8_1 = some r) ∧ Aside0 (kq ≤ k) ∧ Aside0 (Kd.S k34 34 w' w.heap.size (fun _ => True) v3 x3_1) ∧ Aside0 (Below w.heap.size w w'))
  case atStart => exact ⟨(([] : List (S34))), (0), (by first | rfl | (simp; done) | (simp [*]; done)), H', ⟨Nat.le_refl _⟩, ⟨by first | exact Kd.S_nil _ _ _ _ _ | exact Kd.N_nil _ _ _ _ _ | exact Kd.V_nil _ _ _ _ _ | exact Kd.Q_nil _ _ _ _ _ | exact Kd.R_nil _ _ _ _ _⟩, ⟨by repeat (first | (with_reducible first | exact HB.out | apply below_alloc | apply pw_below_drewN | apply below_drew1) | exact HB.out)⟩⟩
  case round =>
    clear H'
    obtain ⟨x3_1, x8_1, rfl, HA, HK1, HO_3, HB⟩ := hrel
    cases gk with
    | zero => exact absurd HA.out (by simp [laws_dupXattrs.l0])
    | succ k1 =>
      have H := HA.out
      clear HA
      simp only [laws_dupXattrs.l0] at H
      by_cases c2 : x8_1 < (l0.length : Int)
      · rw [if_pos c2] at H
        have c2b0 : decide (x8_1 < (l0.length : Int)) = true := decide_eq_true c2
        clear c2
        by_cases c3 : 0 ≤ x8_1
        · rw [if_pos c3] at H
          have c3b0 : decide (0 ≤ x8_1) = true := decide_eq_true c3
          clear c3
          by_cases c4 : x8_1 < (l0.length : Int)
          · rw [if_pos c4] at H
            have c4b0 : decide (x8_1 < (l0.length : Int)) = true := decide_eq_true c4
            clear c4
            replace H := Option.bind_eq_some_iff.mp H
            obtain ⟨t141, A50, H⟩ := H
            replace H : (if x3_1.length < 3518437208883 then (laws_dupXattrs.l0 k1 (x3_1 ++ [(⟨(rd_T34 l0 x8_1).f0, t141⟩ : S34)]) l0 (l0.length : Int) (wrap64 (x8_1 + 1))) else (none)) = some r := H
            have A5 := Aside0.mk A50
            clear A50
            by_cases c6 : x3_1.length < 3518437208883
            · rw [if_pos c6] at H
              have LMc6 := Aside0.mk c6
              clear c6
              obtain ⟨y144, hy144⟩ : ∃ y_ : List (S34), y_ = (x3_1 ++ [(⟨(rd_T34 l0 x8_1).f0, t141⟩ : S34)]) := ⟨_, rfl⟩
              replace H : (laws_dupXattrs.l0 k1 y144 l0 (l0.length : Int) (wrap64 (x8_1 + 1))) = some r := by first | (rw [hy144]; with_reducible exact H) | (have H2_ := (Option.bind_some _ _).symm.trans H; rw [hy144]; with_reducible exact H2_) | (have H2_ := (Option.bind_some _ _).symm.trans H; with_reducible exact H2_) | with_reducible exact H | (rw [hy144]; exact H) | exact H
              have Ny144 := Aside0.mk hy144
              clear hy144
              have H' := Aside0.mk H
              clear H
              have p139 : 0 ≤ (x8_1 : Int) := of_decide_eq_true (by first | (with_reducible assumption) | assumption)
              have q139 : x8_1 < (l0.length : Int) := of_decide_eq_true (by first | (with_reducible assumption) | assumption)
              obtain ⟨ad139, A139_1, c139_1, e139, hx139_0, hx139_1, hl139_1, hi139_1⟩ := at_T34 HR0.out x8_1 p139 q139
              cases e139
              replace hx139_0 := (HB.out.cell (World.block_lt_of_cell? w _ hx139_0)).trans hx139_0
              replace hx139_1 := (HB.out.cell (World.block_lt_of_cell? w _ hx139_1)).trans hx139_1
              have HR139_1 := Aside0.mk hi139_1
              have HC139_1 := Aside0.mk hl139_1
              clear hi139_1 hl139_1
              replace p139 := eq_true p139
              replace q139 := eq_true q139
              try go_wp2_with (first | ((with_reducible refine gate_dst (N := 5) rfl ?_); refine box_event ?hg (N := 5) ?hd (cs := #[.string (⟨#[]⟩ : ByteArray), .slice none 0 0]) (t := 34) ?hr ?_; (case hd => rfl); (case hg => rfl); (case hr => first | (go_simp; done) | (go_simp; rfl)); intro gb140 hg w7 hbox hb; have n0_ := Aside0.mk (Kd.S_below (Kd.S_elderB (by (with_reducible repeat (first | apply Kd.S_alloc | apply Kd.S_drewN | apply Kd.S_drew)); exact HO_3.out) gb140 (Nat.le_of_eq hg.symm)) hb); have n1_ := Aside0.mk (below_step (by repeat (first | (with_reducible first | exact HB.out | apply below_alloc | apply pw_below_drewN | apply below_drew1) | exact HB.out)) hb); have n2_ := Aside0.mk (hbox); have n3_ := Aside0.mk ((by rw [hg]; exact (below_size (by repeat (first | (with_reducible first | exact HB.out | apply below_alloc | apply pw_below_drewN | apply below_drew1) | exact HB.out))) : w.heap.size ≤ gb140)); have n4_ := Aside0.mk ((by rw [hg]; exact (below_size (by repeat (first | (with_reducible first | exact HB.out | apply below_alloc | apply pw_below_drewN | apply below_drew1) | exact HB.out))) : w.heap.size ≤ gb140)); clear HO_3; clear HB; have HO_3 := n0_; have HB := n1_; have BK140 := n2_; have GW140 := n3_; have GE140 := n4_; clear n0_ n1_ n2_ n3_ n4_; clear hb hbox hg; have hcz8_0 : w7.cell? ⟨gb140, 0, none⟩ = some (.string (⟨#[]⟩ : ByteArray)) := (blk_cell BK140.out 0).trans rfl; have hcz8_1 : w7.cell? ⟨gb140, 1, none⟩ = some (.slice none 0 0) := (blk_cell BK140.out 1).trans rfl; have hfz8_0 := blk_frozen BK140.out 0; have hfz8_1 := blk_frozen BK140.out 1))
              have n0_ : Aside0 (Kd.S k34 34 ((w7.setCell ⟨gb140, 0, none⟩ (.string ((rd_T34 l0 x8_1).f0))).setCell ⟨gb140, 1, none⟩ (.slice A139_1 ((rd_T34 l0 x8_1).f1).length c139_1)) w.heap.size (fun k_ => k_ ≠ gb140) u3 x3_1) := ⟨by (with_reducible repeat (first | apply Kd.S_alloc | apply Kd.S_drewN | apply Kd.S_drew)); exact Kd.S_mono (Kd.S_far (p := ⟨gb140, 1, none⟩) (Kd.S_far (p := ⟨gb140, 0, none⟩) (Kd.S_mono HO_3.out (fun k_ hk => (⟨hk, hk.2⟩ : _ ∧ k_ ≠ gb140))) (fun _ hk => hk.2) (.string ((rd_T34 l0 x8_1).f0))) (fun _ hk => hk.2) (.slice A139_1 ((rd_T34 l0 x8_1).f1).length c139_1)) (fun _ hk => hk.1.2)⟩
              have n1_ : Aside0 (((w7.setCell ⟨gb140, 0, none⟩ (.string ((rd_T34 l0 x8_1).f0))).setCell ⟨gb140, 1, none⟩ (.slice A139_1 ((rd_T34 l0 x8_1).f1).length c139_1)).heap[gb140]? = some (.cells #[.string ((rd_T34 l0 x8_1).f0), .slice A139_1 ((rd_T34 l0 x8_1).f1).length c139_1] 34 (0, 0))) := ⟨by (with_reducible repeat (first | refine blk_drewN ?_ _ | refine blk_drew ?_ | refine blk_alloc ?_ _)); refine blk_put (cs := #[.string ((rd_T34 l0 x8_1).f0), .slice none 0 0]) ?_ 1 _ rfl; (with_reducible repeat (first | refine blk_drewN ?_ _ | refine blk_drew ?_ | refine blk_alloc ?_ _)); refine blk_put (cs := #[.string (⟨#[]⟩ : ByteArray), .slice none 0 0]) ?_ 0 _ rfl; (with_reducible repeat (first | refine blk_drewN ?_ _ | refine blk_drew ?_ | refine blk_alloc ?_ _)); exact BK140.out⟩
              have n2_ : Aside0 (Below w.heap.size w ((w7.setCell ⟨gb140, 0, none⟩ (.string ((rd_T34 l0 x8_1).f0))).setCell ⟨gb140, 1, none⟩ (.slice A139_1 ((rd_T34 l0 x8_1).f1).length c139_1))) := ⟨by repeat (first | (with_reducible first | exact HB.out | apply below_alloc | apply pw_below_drewN | apply below_drew1 | refine below_set ?_ GE140.out) | exact HB.out)⟩
              (try clear HO_3)
              (try clear BK140)
              (try clear HB)
              generalize ((w7.setCell ⟨gb140, 0, none⟩ (.string ((rd_T34 l0 x8_1).f0))).setCell ⟨gb140, 1, none⟩ (.slice A139_1 ((rd_T34 l0 x8_1).f1).length c139_1)) = w9 at n0_ n1_ n2_ ⊢
              have HO_3 := n0_
              have BK140 := n1_
              have HB := n2_
              clear n0_ n1_ n2_
              have n0_ := Aside0.mk (Kd.S_drew HO_3.out)
              have n1_ := Aside0.mk (blk_drew BK140.out)
              have n2_ := Aside0.mk (below_drew1 HB.out)
              clear HO_3
              clear BK140
              clear HB
              have HO_3 := n0_
              have BK140 := n1_
              have HB := n2_
              clear n0_ n1_ n2_
              refine start_ (n := 10) (S := fun w' => w'.cell? ⟨gb140, 0, none⟩ = some (.string ((rd_T34 l0 x8_1).f0)) ∧ w'.cell? ⟨gb140, 1, none⟩ = some (.slice A139_1 ((rd_T34 l0 x8_1).f1).length c139_1)) (ds := []) #[false, false, false, false, false, false, false, false, false, false] (by kernel_rfl) rfl rfl ⟨(blk_cell BK140.out 0).trans rfl, (blk_cell BK140.out 1).trans rfl⟩ (fun hHeld => ?_); refine with_tabW laws_dupXattrs.tab5 laws_dupXattrs.bits5 (fun HT_ HW_ => ?_)
              generalize w9.drew = w10 at HO_3 BK140 HB hHeld ⊢
              refine pure_ (i := 0) (N := some 12) (v := ?_) (a' := ?_) #[true, false, false, false, false, false, false, false, false, false] rfl rfl (any_of HT_.out (by kernel_rfl)) (fun _ _ _ h => h) (Or.inl ⟨by rfl, ?_⟩) ?_ ?_
              rotate_left
              · intro w'
                go_simp
                with_reducible rfl
              rotate_left
              · simp only [Act.put, List.setIfInBounds_toArray, List.set_cons_zero, List.set_cons_succ, i64_w, i32_w]
                rfl
              refine pure_ (i := 1) (N := some 13) (v := ?_) (a' := ?_) #[true, true, false, false, false, false, false, false, false, false] rfl rfl (any_of HT_.out (by kernel_rfl)) (fun _ _ _ h => h) (Or.inl ⟨by rfl, ?_⟩) ?_ ?_
              rotate_left
              · intro w'
                go_simp
                with_reducible rfl
              rotate_left
              · simp only [Act.put, List.setIfInBounds_toArray, List.set_cons_zero, List.set_cons_succ, i64_w, i32_w]
                rfl
              refine pure_ (i := 3) (N := some 15) (v := ?_) (a' := ?_) #[true, true, false, true, false, false, false, false, false, false] rfl rfl (any_of HT_.out (by kernel_rfl)) (fun _ _ _ h => h) (Or.inl ⟨by rfl, ?_⟩) ?_ ?_
              rotate_left
              · intro w'
                go_simp
                with_reducible rfl
              rotate_left
              · simp only [Act.put, List.setIfInBounds_toArray, List.set_cons_zero, List.set_cons_succ, i64_w, i32_w]
                rfl
              refine take_ (i := 2) (N := some 14) (v := ?_) (a' := ?_) #[true, true, true, true, false, false, false, false, false, false] rfl rfl (take_ofW HT_.out HW_.out (by kernel_rfl)) (fun _ _ _ h => h) (Or.inl ⟨by rfl, ?_⟩) hHeld ?_ ?_
              rotate_left
              · rintro w' ⟨s0, s1⟩
                go_simp
                with_reducible rfl
              rotate_left
              · simp only [Act.put, List.setIfInBounds_toArray, List.set_cons_zero, List.set_cons_succ, i64_w, i32_w]
                rfl
              refine take_ (i := 4) (N := some 16) (v := ?_) (a' := ?_) #[true, true, true, true, true, false, false, false, false, false] rfl rfl (take_ofW HT_.out HW_.out (by kernel_rfl)) (fun _ _ _ h => h) (Or.inl ⟨by rfl, ?_⟩) hHeld ?_ ?_
              rotate_left
              · rintro w' ⟨s0, s1⟩
                go_simp
                with_reducible rfl
              rotate_left
              · simp only [Act.put, List.setIfInBounds_toArray, List.set_cons_zero, List.set_cons_succ, i64_w, i32_w]
                rfl
              refine one_ (i := 5) (N := some 17) #[true, true, true, true, true, true, false, false, false, false] rfl rfl (one_of HT_.out (by kernel_rfl)) (by decide) (fun K hK => ?_)
              refine goes_ Tryd.func15 (by kernel_rfl) rfl #[.slice A139_1 ((rd_T34 l0 x8_1).f1).length c139_1] (by rfl) rfl rfl (by (try simp only [List.map_toArray, List.map_cons, List.map_nil]); first | done | rfl | (simp only [List.length_drop, List.length_take]; rfl)) ?_
              with_reducible refine (laws_dup.calls _ _ ((rd_T34 l0 x8_1).f1) t141 _ ?side1 ?side2 A5.out).mono ?_
              (case side1 => repeat (first | exact (Kd.C_below HR139_1.out HB.out) | (with_reducible refine Kd.C_alloc ?_ _) | (with_reducible refine Kd.C_drewN ?_ _) | (with_reducible refine Kd.C_drew ?_)))
              (case side2 => exact HC139_1.out)
              rintro e w11 ⟨v142, rfl, ho0, hb⟩
              refine ⟨_, rfl, ?_⟩
              have n0_ := Aside0.mk (Kd.S_elder' (by (with_reducible repeat (first | apply Kd.S_alloc | apply Kd.S_drewN | apply Kd.S_drew)); exact HO_3.out) (Kd.R_base ho0) hb)
              have n1_ := Aside0.mk (Kd.R_lower ho0 (below_size (by repeat (first | (with_reducible first | exact HB.out | apply below_alloc | apply pw_below_drewN | apply below_drew1 | refine below_set ?_ GE140.out) | exact HB.out))))
              have n2_ := Aside0.mk (blk_below (g := gb140) (o := .cells #[.string ((rd_T34 l0 x8_1).f0), .slice A139_1 ((rd_T34 l0 x8_1).f1).length c139_1] 34 (0, 0)) (by (with_reducible repeat (first | refine blk_drewN ?_ _ | refine blk_drew ?_ | refine blk_alloc ?_ _)); exact BK140.out) hb)
              have n3_ := Aside0.mk (below_step (by repeat (first | (with_reducible first | exact HB.out | apply below_alloc | apply pw_below_drewN | apply below_drew1 | refine below_set ?_ GE140.out) | exact HB.out)) hb)
              clear HO_3
              clear BK140
              clear HB
              have HO_3 := n0_
              have HO143 := n1_
              have BK140 := n2_
              have HB := n3_
              clear n0_ n1_ n2_ n3_
              (try clear hb)
              (try clear hb2)
              (try clear hk)
              (try clear hi)
              (try clear ho0)
              obtain ⟨Ao12, co12, eo12⟩ := Kd.R_slice HO143.out
              (first | subst eo12 | (injection eo12 with f1_ f2_ f3_; have f4_ := f1_.symm; have f5_ := f3_.symm; clear f1_ f2_ f3_; subst f4_; subst f5_))
              refine hK.out _ _ ⟨(blk_cell BK140.out 0).trans rfl, (blk_cell BK140.out 1).trans rfl⟩ (fun hHeld => ?_)
              clear hK K
              refine norm_ (a' := ?_) ?_ ?_
              rotate_left
              · show Act.put _ (some 17) _ = _
                simp only [Act.put, List.setIfInBounds_toArray, List.set_cons_zero, List.set_cons_succ, i64_w, i32_w]
                rfl
              refine pure_ (i := 6) (N := some 18) (v := ?_) (a' := ?_) #[true, true, true, true, true, true, true, false, false, false] rfl rfl (any_of HT_.out (by kernel_rfl)) (fun _ _ _ h => h) (Or.inl ⟨by rfl, ?_⟩) ?_ ?_
              rotate_left
              · intro w'
                go_simp
                with_reducible rfl
              rotate_left
              · simp only [Act.put, List.setIfInBounds_toArray, List.set_cons_zero, List.set_cons_succ, i64_w, i32_w]
                rfl
              refine one_ (i := 7) (N := some 19) #[true, true, true, true, true, true, true, true, false, false] rfl rfl (one_of HT_.out (by kernel_rfl)) (by decide) (fun K hK => ?_)
              refine value_ (w1 := ?_) (v := ?_) (by rfl) rfl ?_ ?_
              rotate_left 2
              · go_simp
                constructor
                · rfl
                · rfl
              refine hK.out _ _ ⟨(blk_cell (blk_alloc BK140.out _) 0).trans rfl, (blk_cell (blk_alloc BK140.out _) 1).trans rfl⟩ (fun hHeld => ?_)
              clear hK K
              refine norm_ (a' := ?_) ?_ ?_
              rotate_left
              · show Act.put _ (some 19) _ = _
                simp only [Act.put, List.setIfInBounds_toArray, List.set_cons_zero, List.set_cons_succ, i64_w, i32_w]
                rfl
              refine one_ (i := 8) (N := some 20) #[true, true, true, true, true, true, true, true, true, false] rfl rfl (one_of HT_.out (by kernel_rfl)) (by decide) (fun K hK => ?_)
              refine Kd.S_append_step k34 (w0 := w) w.heap.size (by rfl) (.tmp 12) (.tmp 19) 22 34 (.agg #[(.string ⟨#[]⟩), (.slice none 0 0)]) 40 rfl Tryd.underlying22 info34 rfl (by decide) (by omega) u3 x3_1 (⟨(rd_T34 l0 x8_1).f0, t141⟩ : S34) [.string ((rd_T34 l0 x8_1).f0), .slice Ao12 t141.length co12] (fun k_ => k_ ≠ gb140) (fun k_ => some k_ = (.slice Ao12 t141.length co12 : Value).ownBlock) rfl rfl ?aP (fun k_ hk_ => ((Kd.R_mono (ok' := fun k_ => ((fun k_ => k_ ≠ gb140)) k_ ∧ some k_ ≠ (u3 : Value).ownBlock) (Kd.R_types (Kd.R_apart' (HO143.out) (Kd.S_typed HO_3.out) (by decide)) BK140.out (by decide)) (fun k_ hk => ⟨hk.2, hk.1.2⟩))).1 k_ hk_.symm) ?aF ?aO ?aB ?aS ?aL ?_
              (case aP => exact k34_mkM _ _ _ (⟨(rd_T34 l0 x8_1).f0, t141⟩ : S34) (Kd.R_mono (Kd.R_tight rfl (Kd.R_mono (ok' := fun k_ => ((fun k_ => k_ ≠ gb140)) k_ ∧ some k_ ≠ (u3 : Value).ownBlock) (Kd.R_types (Kd.R_apart' (HO143.out) (Kd.S_typed HO_3.out) (by decide)) BK140.out (by decide)) (fun k_ hk => ⟨hk.2, hk.1.2⟩))) (fun _ h_ => h_)))
              (case aB => exact (by repeat (first | (with_reducible first | exact HB.out | apply below_alloc | apply pw_below_drewN | apply below_drew1 | refine below_set ?_ GE140.out) | exact HB.out)))
              (case aF => exact (fun k_ hk => Kd.freshB (g := gb140) (o := .cells #[.string ((rd_T34 l0 x8_1).f0), .slice A139_1 ((rd_T34 l0 x8_1).f1).length c139_1] 34 (0, 0)) (by (with_reducible repeat (first | refine blk_drewN ?_ _ | refine blk_drew ?_ | refine blk_alloc ?_ _)); exact BK140.out) k_ hk))
              (case aO => exact (by (with_reducible repeat (first | apply Kd.S_alloc | apply Kd.S_drewN | apply Kd.S_drew)); exact Kd.S_mono HO_3.out (fun k_ hk => ⟨hk.1, fun e_ => hk.2 e_⟩)))
              (case aS => exact (below_size (by repeat (first | (with_reducible first | exact HB.out | apply below_alloc | apply pw_below_drewN | apply below_drew1 | refine below_set ?_ GE140.out) | exact HB.out))))
              (case aL => have := LMc6.out; omega)
              intro v145 w13 ho hb hg hat
              rw [← Ny144.out] at ho
              have n0_ := Aside0.mk (blk_grown (g := gb140) (o := .cells #[.string ((rd_T34 l0 x8_1).f0), .slice A139_1 ((rd_T34 l0 x8_1).f1).length c139_1] 34 (0, 0)) (by (with_reducible repeat (first | refine blk_drewN ?_ _ | refine blk_drew ?_ | refine blk_alloc ?_ _)); exact BK140.out) hg (Kd.S_away HO_3.out (fun _ hk => hk.1)))
              have n1_ := Aside0.mk (hb)
              have n2_ := Aside0.mk (ho)
              clear BK140
              clear HB
              clear HO_3
              clear HO143
              have BK140 := n0_
              have HB := n1_
              have HO146 := n2_
              clear n0_ n1_ n2_
              clear ho hb hg hat
              refine hK.out _ _ ⟨(blk_cell BK140.out 0).trans rfl, (blk_cell BK140.out 1).trans rfl⟩ (fun hHeld => ?_)
              clear hK K
              refine norm_ (a' := ?_) ?_ ?_
              rotate_left
              · show Act.put _ (some 20) _ = _
                simp only [Act.put, List.setIfInBounds_toArray, List.set_cons_zero, List.set_cons_succ, i64_w, i32_w]
                rfl
              refine pure_ (i := 9) (N := some 3) (v := ?_) (a' := ?_) #[true, true, true, true, true, true, true, true, true, true] rfl rfl (any_of HT_.out (by kernel_rfl)) (fun _ _ _ h => h) (Or.inl ⟨by rfl, ?_⟩) ?_ ?_
              rotate_left
              · intro w'
                go_simp
                with_reducible rfl
              rotate_left
              · simp only [Act.put, List.setIfInBounds_toArray, List.set_cons_zero, List.set_cons_succ, i64_w, i32_w]
                rfl
              refine done_ (done_of HT_.out (by kernel_rfl)) ?_
              try go_wp2
              go_roundg k1
              case measure => have := HK1.out; omega
              case rel => exact ⟨(y144), (wrap64 (x8_1 + 1)), (by first | rfl | (simp; done) | (simp [*]; done)), H', ⟨by have := HK1.out; omega⟩, ⟨by (with_reducible repeat (first | apply Kd.S_alloc | apply Kd.S_drewN | apply Kd.S_drew)); exact Kd.S_mono HO146.out (fun _ hk => trivial)⟩, ⟨by repeat (first | (with_reducible first | exact HB.out | apply below_alloc | apply pw_below_drewN | apply below_drew1 | refine below_set ?_ GE140.out) | exact HB.out)⟩⟩
            · rw [if_neg c6] at H
              exact absurd H (by simp)
          · rw [if_neg c4] at H
            exact absurd H (by simp)
        · rw [if_neg c3] at H
          exact absurd H (by simp)
      · rw [if_neg c2] at H
        have c2b0 : decide (x8_1 < (l0.length : Int)) = false := decide_eq_false c2
        clear c2
        obtain rfl := Option.some.inj H
        go_wp2
        go_ret
        exact ⟨_, by first | rfl | (simp [errW_none, errW_some] <;> rfl) | (simp [*, errW_none, errW_some] <;> rfl), by (with_reducible repeat (first | apply Kd.S_alloc | apply Kd.S_drewN | apply Kd.S_drew)); exact HO_3.out, by repeat (first | (with_reducible first | exact HB.out | apply below_alloc | apply pw_below_drewN | apply below_drew1) | exact HB.out)⟩

/-! ### spec_room: function 16 -/
def spec_room.f (k : Nat) (a0_0 : ByteArray) (l0_1 : List Int) : Option (Int) := (spec_Prefixed.f k a0_0).bind fun bt148 => (some (wrap64 ((wrap64 (16 + (wrap64 ((wrap64 (Int.tdiv (wrap64 ((bt148.2.size : Int) + 3)) 4)) * 4)))) + (wrap64 ((wrap64 (Int.tdiv (wrap64 ((l0_1.length : Int) + 3)) 4)) * 4)))))
theorem spec_room.mono : ∀ a0 a1 k, LeO (spec_room.f k a0 a1) (spec_room.f (k + 1) a0 a1) := by
  intro a0 a1 k
  unfold spec_room.f
  repeat' first
      | (with_reducible exact spec_Prefixed.mono _ _)
      | (with_reducible exact LeO.refl _)
      | (with_reducible exact LeO.none _)
      | (with_reducible refine LeO.ite ?_ ?_)
      | (with_reducible refine LeO.bind ?_ (fun _ => ?_))
      | exact spec_Prefixed.mono _ _
      | exact LeO.none _
      | refine LeO.ite ?_ ?_
      | refine LeO.bind ?_ (fun _ => ?_)
set_option maxHeartbeats 8000000 in
set_option maxRecDepth 100000 in
theorem spec_room.calls (k : Nat) (a0_0 : ByteArray) (A0_1 : Option Addr) (c0_1 : Nat) (l0_1 : List Int) (r : Int) (w : World) (hr0_1 : Kd.C (Kd.int .u8) w A0_1 l0_1.length l0_1) (hc0_1 : l0_1.length ≤ c0_1) (h : spec_room.f k a0_0 l0_1 = some r) :
    Calls Tryd.prog 16 #[.agg #[.string a0_0, .slice A0_1 l0_1.length c0_1]] w fun e w' => e = .returned (.int .i64 r) ∧ Below w.heap.size w w' := by
  have hu47 := Tryd.underlying47
  have HR0_1 := Aside0.mk hr0_1
  have HC0_1 := Aside0.mk hc0_1
  clear hr0_1 hc0_1
  have HB := Aside0.mk (Below.refl w.heap.size w)
  have H : ((spec_Prefixed.f k a0_0).bind fun bt148 => (some (wrap64 ((wrap64 (16 + (wrap64 ((wrap64 (Int.tdiv (wrap64 ((bt148.2.size : Int) + 3)) 4)) * 4)))) + (wrap64 ((wrap64 (Int.tdiv (wrap64 ((l0_1.length : Int) + 3)) 4)) * 4)))))) = some r := h
  clear h
  replace H := Option.bind_eq_some_iff.mp H
  obtain ⟨⟨t148, t149⟩, A20, H⟩ := H
  replace H : (some (wrap64 ((wrap64 (16 + (wrap64 ((wrap64 (Int.tdiv (wrap64 ((t149.size : Int) + 3)) 4)) * 4)))) + (wrap64 ((wrap64 (Int.tdiv (wrap64 ((l0_1.length : Int) + 3)) 4)) * 4))))) = some r := H
  have A2 := Aside0.mk A20
  clear A20
  obtain rfl := Option.some.inj H
  go_enter Tryd.func16, Tryd.ntmps16
  go_wp2_with (first | ((with_reducible refine gate_dst (N := 1) rfl ?_); refine box_event ?hg (N := 1) ?hd (cs := #[.string a0_0, .slice A0_1 l0_1.length c0_1]) (t := 47) ?hr ?_; (case hd => rfl); (case hg => rfl); (case hr => first | (go_simp; done) | (go_simp; rfl)); intro gb147 hg w3 hbox hb; have n0_ := Aside0.mk (below_step (by repeat (first | (with_reducible first | exact HB.out | apply below_alloc | apply pw_below_drewN | apply below_drew1) | exact HB.out)) hb); have n1_ := Aside0.mk (hbox); have n2_ := Aside0.mk ((by rw [hg]; exact (below_size (by repeat (first | (with_reducible first | exact HB.out | apply below_alloc | apply pw_below_drewN | apply below_drew1) | exact HB.out))) : w.heap.size ≤ gb147)); have n3_ := Aside0.mk ((by rw [hg]; exact (below_size (by repeat (first | (with_reducible first | exact HB.out | apply below_alloc | apply pw_below_drewN | apply below_drew1) | exact HB.out))) : w.heap.size ≤ gb147)); clear HB; have HB := n0_; have BK147 := n1_; have GW147 := n2_; have GE147 := n3_; clear n0_ n1_ n2_ n3_; clear hb hbox hg; have hcz4_0 : w3.cell? ⟨gb147, 0, none⟩ = some (.string a0_0) := (blk_cell BK147.out 0).trans rfl; have hcz4_1 : w3.cell? ⟨gb147, 1, none⟩ = some (.slice A0_1 l0_1.length c0_1) := (blk_cell BK147.out 1).trans rfl; have hfz4_0 := blk_frozen BK147.out 0; have hfz4_1 := blk_frozen BK147.out 1) | ((with_reducible refine gate_callee (f := 12) rfl ?_); refine goesL_ (some 8) rfl rfl Tryd.func12 (by kernel_rfl) rfl #[.string a0_0] rfl (by (try simp only [List.map_toArray, List.map_cons, List.map_nil]); first | done | rfl | (simp only [List.length_drop, List.length_take]; rfl)) ?_; (with_reducible refine (spec_Prefixed.calls k a0_0 t148 t149 _ A2.out).mono ?_); rintro e w5 ⟨rfl, hb⟩; refine ⟨_, rfl, ?_⟩; have n0_ := Aside0.mk (blk_below (g := gb147) (o := .cells #[.string a0_0, .slice A0_1 l0_1.length c0_1] 47 (0, 0)) (by (with_reducible repeat (first | refine blk_drewN ?_ _ | refine blk_drew ?_ | refine blk_alloc ?_ _)); exact BK147.out) hb); have n1_ := Aside0.mk (below_step (by repeat (first | (with_reducible first | exact HB.out | apply below_alloc | apply pw_below_drewN | apply below_drew1 | refine below_set ?_ GE147.out) | exact HB.out)) hb); clear BK147; clear HB; have BK147 := n0_; have HB := n1_; clear n0_ n1_; (try clear hb); (try clear hb2); (try clear hk); (try clear hi); have hcz6_0 : w5.cell? ⟨gb147, 0, none⟩ = some (.string a0_0) := (blk_cell BK147.out 0).trans rfl; have hcz6_1 : w5.cell? ⟨gb147, 1, none⟩ = some (.slice A0_1 l0_1.length c0_1) := (blk_cell BK147.out 1).trans rfl; have hfz6_0 := blk_frozen BK147.out 0; have hfz6_1 := blk_frozen BK147.out 1))
  go_ret
  exact ⟨by first | rfl | (simp [errW_none, errW_some] <;> rfl) | (simp [*, errW_none, errW_some] <;> rfl), by repeat (first | (with_reducible first | exact HB.out | apply below_alloc | apply pw_below_drewN | apply below_drew1 | refine below_set ?_ GE147.out) | exact HB.out)⟩

end Go.Proofs.YtjpahogldfmaeabDoor.PFnAttributesFit
