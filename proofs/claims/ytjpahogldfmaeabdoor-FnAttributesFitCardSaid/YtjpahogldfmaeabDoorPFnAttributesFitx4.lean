-- PRINTED BY print.sh 35421559b90ae4d0a3588c463048766b98c2df88dd9212a6774a882060cdf62d: not written by this session
import Derived.Test.YtjpahogldfmaeabDoorPFnAttributesFitx0
import Derived.Test.YtjpahogldfmaeabDoorPFnAttributesFitx3
namespace Go.Proofs.YtjpahogldfmaeabDoor.PFnAttributesFit
open Go.RowKit Go.Proofs.YtjpahogldfmaeabDoorW.PrintWords Go.Proofs.YtjpahogldfmaeabDoorW.PrintLast Go.Proofs.YtjpahogldfmaeabDoorW.PrintMore
attribute [local go_sem] max2_int min2_int max_two min_two max_three min_three max_four min_four   -- for this text's walks alone
set_option linter.unusedVariables false
set_option linter.unusedSimpArgs false

/-! ### spec_Fitted: function 8 -/
def spec_Fitted.l0 : Nat → List (S47) → List (S47) → Int → Int → List (S47) → Int → Int → Option ((List (S47)) × (List (S47)) × Bool)
  | 0, _, _, _, _, _, _, _ => none
  | k + 1, x2, x3, x5, x6, x10, x11, x12 => if x12 < x11 then (if 0 ≤ x12 then (if x12 < (x10.length : Int) then ((spec_room.f k ((rd_T47 x10 x12).f0) ((rd_T47 x10 x12).f1)).bind fun t152 => (if t152 ≤ x5 then (if x2.length < 3518437208883 then (spec_Fitted.l0 k (x2 ++ [(⟨(rd_T47 x10 x12).f0, (rd_T47 x10 x12).f1⟩ : S47)]) x3 (wrap64 (x5 - t152)) x6 x10 x11 (wrap64 (x12 + 1))) else (none)) else (if t152 ≤ x6 then (if x3.length < 3518437208883 then (spec_Fitted.l0 k x2 (x3 ++ [(⟨(rd_T47 x10 x12).f0, (rd_T47 x10 x12).f1⟩ : S47)]) x5 (wrap64 (x6 - t152)) x10 x11 (wrap64 (x12 + 1))) else (none)) else (some (x2, x3, false))))) else (none)) else (none)) else (some (x2, x3, true))
def spec_Fitted.f (k : Nat) (l0 : List (S47)) : Option ((List (S47)) × (List (S47)) × Bool) := spec_Fitted.l0 k ([] : List (S47)) ([] : List (S47)) 96 4060 l0 (l0.length : Int) 0
theorem spec_Fitted.mono_l : ∀ k, (∀ y0 y1 y2 y3 y4 y5 y6, LeO (spec_Fitted.l0 k y0 y1 y2 y3 y4 y5 y6) (spec_Fitted.l0 (k + 1) y0 y1 y2 y3 y4 y5 y6))
  | 0 => fun _ _ _ _ _ _ _ r h => by simp [spec_Fitted.l0] at h
  | k + 1 => by
    have ih0 := spec_Fitted.mono_l k
    · intro y0 y1 y2 y3 y4 y5 y6
      unfold spec_Fitted.l0
      repeat' first
      | (with_reducible exact ih0 _ _ _ _ _ _ _)
      | (with_reducible exact spec_room.mono _ _ _)
      | (with_reducible exact LeO.refl _)
      | (with_reducible exact LeO.none _)
      | (with_reducible refine LeO.ite ?_ ?_)
      | (with_reducible refine LeO.bind ?_ (fun _ => ?_))
      | exact ih0 _ _ _ _ _ _ _
      | exact spec_room.mono _ _ _
      | exact LeO.none _
      | refine LeO.ite ?_ ?_
      | refine LeO.bind ?_ (fun _ => ?_)
theorem spec_Fitted.mono : ∀ a0 k, LeO (spec_Fitted.f k a0) (spec_Fitted.f (k + 1) a0) := by
  intro a0 k
  have ih0 := spec_Fitted.mono_l k
  unfold spec_Fitted.f
  repeat' first
      | (with_reducible exact ih0 _ _ _ _ _ _ _)
      | (with_reducible exact spec_room.mono _ _ _)
      | (with_reducible exact LeO.refl _)
      | (with_reducible exact LeO.none _)
      | (with_reducible refine LeO.ite ?_ ?_)
      | (with_reducible refine LeO.bind ?_ (fun _ => ?_))
      | exact ih0 _ _ _ _ _ _ _
      | exact spec_room.mono _ _ _
      | exact LeO.none _
      | refine LeO.ite ?_ ?_
      | refine LeO.bind ?_ (fun _ => ?_)
set_option maxHeartbeats 8000000 in
set_option maxRecDepth 100000 in
theorem spec_Fitted.calls (k : Nat) (P0_ : Nat → Prop) (A0 : Option Addr) (c0 : Nat) (l0 : List (S47)) (r1 : List (S47)) (r2 : List (S47)) (r3 : Bool) (w : World) (hs0 : Kd.V k47 47 w w.heap.size (fun k_ => P0_ k_) (.slice A0 l0.length c0) l0) (h : spec_Fitted.f k l0 = some (r1, r2, r3)) :
    Calls Tryd.prog 8 #[.slice A0 l0.length c0] w fun e w' => ∃ v0_ v1_ : Value, e = .returned (.tuple #[v0_, v1_, .bool r3]) ∧ Kd.N k47 47 w' w.heap.size (fun k_ => (P0_ k_ ∨ w.heap.size ≤ k_) ∧ some k_ ≠ (v1_ : Value).ownBlock) v0_ r1 ∧ Kd.N k47 47 w' w.heap.size (fun k_ => (P0_ k_ ∨ w.heap.size ≤ k_) ∧ some k_ ≠ (v0_ : Value).ownBlock) v1_ r2 ∧ Below w.heap.size w w' := by
  have hu47 := Tryd.underlying47
  have HO0 := Aside0.mk (show Kd.V k47 47 w w.heap.size (fun k_ => (P0_ k_ ∨ w.heap.size ≤ k_)) (.slice A0 l0.length c0) l0 from Kd.V_mono hs0 (fun k_ hk => .inl hk))
  have HB := Aside0.mk (Below.refl w.heap.size w)
  have H : (spec_Fitted.l0 k ([] : List (S47)) ([] : List (S47)) 96 4060 l0 (l0.length : Int) 0) = some (r1, r2, r3) := h
  clear h
  have H' := Aside0.mk H
  clear H
  go_enter Tryd.func8, Tryd.ntmps8
  go_wp2
  go_loopg [2, 3, 5, 6, 12] k (fun kq v2 v3 v5 v6 v12 w' => ∃ (x2_1 : List (S47)) (x3_1 : List (S47)) (x5_1 : Int) (x6_1 : Int) (x12_1 : Int), v5 = .int .i64 x5_1 ∧ v6 = .int .i64 x6_1 ∧ v12 = .int .i64 x12_1 ∧ Aside0 (spec_Fitted.l0 kq x2_1 x3_1 x5_1 x6_1 l0 (l0.length : Int) x12_1 = some (r1, r2, r3)) ∧ Aside0 (kq ≤ k) ∧ Aside0 (Kd.N k47 47 w' w.heap.size (fun k_ => (P0_ k_ ∨ w.heap.size ≤ k_) ∧ some k_ ≠ (v3 : Value).ownBlock) v2 x2_1) ∧ Aside0 (Kd.N k47 47 w' w.heap.size (fun k_ => (P0_ k_ ∨ w.heap.size ≤ k_) ∧ some k_ ≠ (v2 : Value).ownBlock) v3 x3_1) ∧ Aside0 (Kd.V k47 47 w' w.heap.size (fun k_ => (P0_ k_ ∨ w.heap.size ≤ k_) ∧ some k_ ≠ (v2 : Value).ownBlock ∧ some k_ ≠ (v3 : Value).ownBlock) (.slice A0 l0.length c0) l0) ∧ Aside0 (Below w.heap.size w w'))
  case atStart => exact ⟨(([] : List (S47))), (([] : List (S47))), (96), (4060), (0), (by first | rfl | (simp; done) | (simp [*]; done)), (by first | rfl | (simp; done) | (simp [*]; done)), (by first | rfl | (simp; done) | (simp [*]; done)), H', ⟨Nat.le_refl _⟩, ⟨by first | exact Kd.S_nil _ _ _ _ _ | exact Kd.N_nil _ _ _ _ _ | exact Kd.V_nil _ _ _ _ _ | exact Kd.Q_nil _ _ _ _ _ | exact Kd.R_nil _ _ _ _ _⟩, ⟨by first | exact Kd.S_nil _ _ _ _ _ | exact Kd.N_nil _ _ _ _ _ | exact Kd.V_nil _ _ _ _ _ | exact Kd.Q_nil _ _ _ _ _ | exact Kd.R_nil _ _ _ _ _⟩, ⟨by (with_reducible repeat (first | apply Kd.V_alloc | apply Kd.V_drewN | apply Kd.V_drew)); exact Kd.V_mono HO0.out (fun _ hk => ⟨hk, ⟨(by simp [Value.ownBlock]), (by simp [Value.ownBlock])⟩⟩)⟩, ⟨by repeat (first | (with_reducible first | exact HB.out | apply below_alloc | apply pw_below_drewN | apply below_drew1) | exact HB.out)⟩⟩
  case round =>
    clear H'
    obtain ⟨x2_1, x3_1, x5_1, x6_1, x12_1, rfl, rfl, rfl, HA, HK1, HO_2, HO_3, HO_10, HB⟩ := hrel
    cases gk with
    | zero => exact absurd HA.out (by simp [spec_Fitted.l0])
    | succ k1 =>
      have H := HA.out
      clear HA
      simp only [spec_Fitted.l0] at H
      by_cases c2 : x12_1 < (l0.length : Int)
      · rw [if_pos c2] at H
        have c2b0 : decide (x12_1 < (l0.length : Int)) = true := decide_eq_true c2
        clear c2
        by_cases c3 : 0 ≤ x12_1
        · rw [if_pos c3] at H
          have c3b0 : decide (0 ≤ x12_1) = true := decide_eq_true c3
          clear c3
          by_cases c4 : x12_1 < (l0.length : Int)
          · rw [if_pos c4] at H
            have c4b0 : decide (x12_1 < (l0.length : Int)) = true := decide_eq_true c4
            clear c4
            replace H := Option.bind_eq_some_iff.mp H
            obtain ⟨t152, A50, H⟩ := H
            replace H : (if t152 ≤ x5_1 then (if x2_1.length < 3518437208883 then (spec_Fitted.l0 k1 (x2_1 ++ [(⟨(rd_T47 l0 x12_1).f0, (rd_T47 l0 x12_1).f1⟩ : S47)]) x3_1 (wrap64 (x5_1 - t152)) x6_1 l0 (l0.length : Int) (wrap64 (x12_1 + 1))) else (none)) else (if t152 ≤ x6_1 then (if x3_1.length < 3518437208883 then (spec_Fitted.l0 k1 x2_1 (x3_1 ++ [(⟨(rd_T47 l0 x12_1).f0, (rd_T47 l0 x12_1).f1⟩ : S47)]) x5_1 (wrap64 (x6_1 - t152)) l0 (l0.length : Int) (wrap64 (x12_1 + 1))) else (none)) else (some (x2_1, x3_1, false)))) = some (r1, r2, r3) := H
            have A5 := Aside0.mk A50
            clear A50
            by_cases c6 : t152 ≤ x5_1
            · rw [if_pos c6] at H
              have c6b0 : decide (t152 ≤ x5_1) = true := decide_eq_true c6
              clear c6
              by_cases c7 : x2_1.length < 3518437208883
              · rw [if_pos c7] at H
                have LMc7 := Aside0.mk c7
                clear c7
                obtain ⟨y153, hy153⟩ : ∃ y_ : List (S47), y_ = (x2_1 ++ [(⟨(rd_T47 l0 x12_1).f0, (rd_T47 l0 x12_1).f1⟩ : S47)]) := ⟨_, rfl⟩
                replace H : (spec_Fitted.l0 k1 y153 x3_1 (wrap64 (x5_1 - t152)) x6_1 l0 (l0.length : Int) (wrap64 (x12_1 + 1))) = some (r1, r2, r3) := by first | (rw [hy153]; with_reducible exact H) | (have H2_ := (Option.bind_some _ _).symm.trans H; rw [hy153]; with_reducible exact H2_) | (have H2_ := (Option.bind_some _ _).symm.trans H; with_reducible exact H2_) | with_reducible exact H | (rw [hy153]; exact H) | exact H
                have Ny153 := Aside0.mk hy153
                clear hy153
                have H' := Aside0.mk H
                clear H
                have p150 : 0 ≤ (x12_1 : Int) := of_decide_eq_true (by first | (with_reducible assumption) | assumption)
                have q150 : x12_1 < (l0.length : Int) := of_decide_eq_true (by first | (with_reducible assumption) | assumption)
                obtain ⟨ad150, A150_1, c150_1, e150, hx150_0, hx150_1, hl150_1, hi150_1⟩ := at_T47 (Kd.V_reads' HO_10.out).2.2 x12_1 p150 q150
                cases e150
                obtain ⟨ce150, hce150, hMe150, hcc150⟩ := Kd.V_get HO_10.out z47 x12_1 p150 (by first | exact q150 | exact of_decide_eq_true (by first | (with_reducible assumption) | assumption) | (have e_ := (Kd.V_reads' HO_10.out).1; omega))
                obtain ⟨ua150_1, uc150_1, rfl, ul150_1, ge150_1⟩ := k47_openF hMe150
                have hv150_1 := hcc150 1 _ rfl
                rw [add_field _ _ 1 (by omega)] at hv150_1
                replace hv150_1 := Option.some.inj (hv150_1.symm.trans hx150_1)
                injection hv150_1 with hva_ hvn_ hvc_
                rw [hva_] at ge150_1
                rw [hvc_] at ul150_1
                have HL150_1 := Aside0.mk (show Kd.V (Kd.int .u8) 5 _ w.heap.size _ _ ((rd_T47 l0 x12_1).f1) from Kd.V_mk ul150_1 ge150_1)
                clear hva_ hvn_ hvc_ ge150_1 ul150_1
                clear hcc150 hce150
                have HR150_1 := Aside0.mk hi150_1
                have HC150_1 := Aside0.mk hl150_1
                clear hi150_1 hl150_1
                replace p150 := eq_true p150
                replace q150 := eq_true q150
                go_wp2_with (first | ((with_reducible refine gate_dst (N := 8) rfl ?_); refine box_event ?hg (N := 8) ?hd (cs := #[.string (⟨#[]⟩ : ByteArray), .slice none 0 0]) (t := 47) ?hr ?_; (case hd => rfl); (case hg => rfl); (case hr => first | (go_simp; done) | (go_simp; rfl)); intro gb151 hg w8 hbox hb; have n0_ := Aside0.mk (Kd.N_below (Kd.N_elderB (by (with_reducible repeat (first | apply Kd.N_alloc | apply Kd.N_drewN | apply Kd.N_drew)); exact HO_2.out) gb151 (Nat.le_of_eq hg.symm)) hb); have n1_ := Aside0.mk (Kd.N_below (Kd.N_elderB (by (with_reducible repeat (first | apply Kd.N_alloc | apply Kd.N_drewN | apply Kd.N_drew)); exact HO_3.out) gb151 (Nat.le_of_eq hg.symm)) hb); have n2_ := Aside0.mk (Kd.V_below (Kd.V_elderB (by (with_reducible repeat (first | apply Kd.V_alloc | apply Kd.V_drewN | apply Kd.V_drew)); exact HO_10.out) gb151 (Nat.le_of_eq hg.symm)) hb); have n3_ := Aside0.mk (Kd.V_below (Kd.V_elderB (by (with_reducible repeat (first | apply Kd.V_alloc | apply Kd.V_drewN | apply Kd.V_drew)); exact HL150_1.out) gb151 (Nat.le_of_eq hg.symm)) hb); have n4_ := Aside0.mk (Kd.C_below (by repeat (first | (with_reducible exact HR150_1.out) | (with_reducible refine Kd.C_alloc ?_ _) | (with_reducible refine Kd.C_drewN ?_ _) | (with_reducible refine Kd.C_drew ?_) | exact HR150_1.out)) hb); have n5_ := Aside0.mk (below_step (by repeat (first | (with_reducible first | exact HB.out | apply below_alloc | apply pw_below_drewN | apply below_drew1) | exact HB.out)) hb); have n6_ := Aside0.mk (hbox); have n7_ := Aside0.mk ((by rw [hg]; exact (below_size (by repeat (first | (with_reducible first | exact HB.out | apply below_alloc | apply pw_below_drewN | apply below_drew1) | exact HB.out))) : w.heap.size ≤ gb151)); have n8_ := Aside0.mk ((by rw [hg]; exact (below_size (by repeat (first | (with_reducible first | exact HB.out | apply below_alloc | apply pw_below_drewN | apply below_drew1) | exact HB.out))) : w.heap.size ≤ gb151)); clear HO_2; clear HO_3; clear HO_10; clear HL150_1; clear HR150_1; clear HB; have HO_2 := n0_; have HO_3 := n1_; have HO_10 := n2_; have HL150_1 := n3_; have HR150_1 := n4_; have HB := n5_; have BK151 := n6_; have GW151 := n7_; have GE151 := n8_; clear n0_ n1_ n2_ n3_ n4_ n5_ n6_ n7_ n8_; clear hb hbox hg; have hcz9_0 : w8.cell? ⟨gb151, 0, none⟩ = some (.string (⟨#[]⟩ : ByteArray)) := (blk_cell BK151.out 0).trans rfl; have hcz9_1 : w8.cell? ⟨gb151, 1, none⟩ = some (.slice none 0 0) := (blk_cell BK151.out 1).trans rfl; have hfz9_0 := blk_frozen BK151.out 0; have hfz9_1 := blk_frozen BK151.out 1) | ((with_reducible refine gate_callee (f := 16) rfl ?_); refine goesL_ (some 17) rfl rfl Tryd.func16 (by kernel_rfl) rfl #[.agg #[.string ((rd_T47 l0 x12_1).f0), .slice A150_1 ((rd_T47 l0 x12_1).f1).length c150_1]] rfl (by (try simp only [List.map_toArray, List.map_cons, List.map_nil]); first | done | rfl | (simp only [List.length_drop, List.length_take]; rfl)) ?_; (with_reducible refine (spec_room.calls k1 ((rd_T47 l0 x12_1).f0) _ _ ((rd_T47 l0 x12_1).f1) t152 _ ?side1 ?side2 A5.out).mono ?_); (case side1 => repeat (first | exact ((Kd.V_reads' (by (with_reducible repeat (first | apply Kd.V_alloc | apply Kd.V_drewN | apply Kd.V_drew)); exact (Kd.V_mono (Kd.V_far (p := ⟨gb151, 1, none⟩) (Kd.V_far (p := ⟨gb151, 0, none⟩) (Kd.V_mono HL150_1.out (fun k_ hk => (⟨hk, hk.2⟩ : _ ∧ k_ ≠ gb151))) (fun _ hk => hk.2) (.string ((rd_T47 l0 x12_1).f0))) (fun _ hk => hk.2) (.slice A150_1 ((rd_T47 l0 x12_1).f1).length c150_1)) (fun _ h_ => h_.1)))).2.2) | (with_reducible refine Kd.C_alloc ?_ _) | (with_reducible refine Kd.C_drewN ?_ _) | (with_reducible refine Kd.C_drew ?_))); (case side2 => exact HC150_1.out); rintro e w10 ⟨rfl, hb⟩; refine ⟨_, rfl, ?_⟩; have n0_ := Aside0.mk (Kd.N_below (by (with_reducible repeat (first | apply Kd.N_alloc | apply Kd.N_drewN | apply Kd.N_drew)); exact (Kd.N_mono (Kd.N_far (p := ⟨gb151, 1, none⟩) (Kd.N_far (p := ⟨gb151, 0, none⟩) (Kd.N_mono HO_2.out (fun k_ hk => (⟨hk, hk.2⟩ : _ ∧ k_ ≠ gb151))) (fun _ hk => hk.2) (.string ((rd_T47 l0 x12_1).f0))) (fun _ hk => hk.2) (.slice A150_1 ((rd_T47 l0 x12_1).f1).length c150_1)) (fun _ h_ => h_.1))) hb); have n1_ := Aside0.mk (Kd.N_below (by (with_reducible repeat (first | apply Kd.N_alloc | apply Kd.N_drewN | apply Kd.N_drew)); exact (Kd.N_mono (Kd.N_far (p := ⟨gb151, 1, none⟩) (Kd.N_far (p := ⟨gb151, 0, none⟩) (Kd.N_mono HO_3.out (fun k_ hk => (⟨hk, hk.2⟩ : _ ∧ k_ ≠ gb151))) (fun _ hk => hk.2) (.string ((rd_T47 l0 x12_1).f0))) (fun _ hk => hk.2) (.slice A150_1 ((rd_T47 l0 x12_1).f1).length c150_1)) (fun _ h_ => h_.1))) hb); have n2_ := Aside0.mk (Kd.V_below (by (with_reducible repeat (first | apply Kd.V_alloc | apply Kd.V_drewN | apply Kd.V_drew)); exact (Kd.V_mono (Kd.V_far (p := ⟨gb151, 1, none⟩) (Kd.V_far (p := ⟨gb151, 0, none⟩) (Kd.V_mono HO_10.out (fun k_ hk => (⟨hk, hk.2⟩ : _ ∧ k_ ≠ gb151))) (fun _ hk => hk.2) (.string ((rd_T47 l0 x12_1).f0))) (fun _ hk => hk.2) (.slice A150_1 ((rd_T47 l0 x12_1).f1).length c150_1)) (fun _ h_ => h_.1))) hb); have n3_ := Aside0.mk (Kd.V_below (by (with_reducible repeat (first | apply Kd.V_alloc | apply Kd.V_drewN | apply Kd.V_drew)); exact (Kd.V_mono (Kd.V_far (p := ⟨gb151, 1, none⟩) (Kd.V_far (p := ⟨gb151, 0, none⟩) (Kd.V_mono HL150_1.out (fun k_ hk => (⟨hk, hk.2⟩ : _ ∧ k_ ≠ gb151))) (fun _ hk => hk.2) (.string ((rd_T47 l0 x12_1).f0))) (fun _ hk => hk.2) (.slice A150_1 ((rd_T47 l0 x12_1).f1).length c150_1)) (fun _ h_ => h_.1))) hb); have n4_ := Aside0.mk (Kd.C_below ((Kd.V_reads' (by (with_reducible repeat (first | apply Kd.V_alloc | apply Kd.V_drewN | apply Kd.V_drew)); exact (Kd.V_mono (Kd.V_far (p := ⟨gb151, 1, none⟩) (Kd.V_far (p := ⟨gb151, 0, none⟩) (Kd.V_mono HL150_1.out (fun k_ hk => (⟨hk, hk.2⟩ : _ ∧ k_ ≠ gb151))) (fun _ hk => hk.2) (.string ((rd_T47 l0 x12_1).f0))) (fun _ hk => hk.2) (.slice A150_1 ((rd_T47 l0 x12_1).f1).length c150_1)) (fun _ h_ => h_.1)))).2.2) hb); have n5_ := Aside0.mk (blk_below (g := gb151) (o := .cells #[.string ((rd_T47 l0 x12_1).f0), .slice A150_1 ((rd_T47 l0 x12_1).f1).length c150_1] 47 (0, 0)) (by (with_reducible repeat (first | refine blk_drewN ?_ _ | refine blk_drew ?_ | refine blk_alloc ?_ _)); refine blk_put (cs := #[.string ((rd_T47 l0 x12_1).f0), .slice none 0 0]) ?_ 1 _ rfl; (with_reducible repeat (first | refine blk_drewN ?_ _ | refine blk_drew ?_ | refine blk_alloc ?_ _)); refine blk_put (cs := #[.string (⟨#[]⟩ : ByteArray), .slice none 0 0]) ?_ 0 _ rfl; (with_reducible repeat (first | refine blk_drewN ?_ _ | refine blk_drew ?_ | refine blk_alloc ?_ _)); exact BK151.out) hb); have n6_ := Aside0.mk (below_step (by repeat (first | (with_reducible first | exact HB.out | apply below_alloc | apply pw_below_drewN | apply below_drew1 | refine below_set ?_ GE151.out) | exact HB.out)) hb); clear HO_2; clear HO_3; clear HO_10; clear HL150_1; clear HR150_1; clear BK151; clear HB; have HO_2 := n0_; have HO_3 := n1_; have HO_10 := n2_; have HL150_1 := n3_; have HR150_1 := n4_; have BK151 := n5_; have HB := n6_; clear n0_ n1_ n2_ n3_ n4_ n5_ n6_; (try clear hb); (try clear hb2); (try clear hk); (try clear hi); have hcz11_0 : w10.cell? ⟨gb151, 0, none⟩ = some (.string ((rd_T47 l0 x12_1).f0)) := (blk_cell BK151.out 0).trans rfl; have hcz11_1 : w10.cell? ⟨gb151, 1, none⟩ = some (.slice A150_1 ((rd_T47 l0 x12_1).f1).length c150_1) := (blk_cell BK151.out 1).trans rfl; have hfz11_0 := blk_frozen BK151.out 0; have hfz11_1 := blk_frozen BK151.out 1) | ((with_reducible refine gate_builtin (b := .append) (xs := #[.tmp 27, .tmp 29]) rfl ?_); at_builtin; refine Kd.N_append k47 (w0 := w) w.heap.size rfl (.tmp 27) (.tmp 29) 27 47 (.agg #[(.string ⟨#[]⟩), (.slice none 0 0)]) 40 rfl Tryd.underlying27 info47 rfl (by decide) (by omega) u2 x2_1 (⟨(rd_T47 l0 x12_1).f0, (rd_T47 l0 x12_1).f1⟩ : S47) [.string ((rd_T47 l0 x12_1).f0), .slice A150_1 ((rd_T47 l0 x12_1).f1).length c150_1] (fun k_ => (P0_ k_ ∨ w.heap.size ≤ k_) ∧ some k_ ≠ (u3 : Value).ownBlock ∧ k_ ≠ gb151) (fun k_ => ((fun k_ => (P0_ k_ ∨ w.heap.size ≤ k_) ∧ some k_ ≠ (u3 : Value).ownBlock ∧ k_ ≠ gb151)) k_ ∧ some k_ ≠ (u2 : Value).ownBlock) rfl rfl ?aP (fun _ hk => hk) ?aF ?aO ?aB ?aS ?aL ?_; (case aP => exact (k47_mkF _ _ (⟨(rd_T47 l0 x12_1).f0, (rd_T47 l0 x12_1).f1⟩ : S47) (Kd.V_reads' (Kd.V_mono (ok' := (fun k_ => ((fun k_ => (P0_ k_ ∨ w.heap.size ≤ k_) ∧ some k_ ≠ (u3 : Value).ownBlock ∧ k_ ≠ gb151)) k_ ∧ some k_ ≠ (u2 : Value).ownBlock)) (HL150_1.out) (fun k_ hk => ⟨⟨hk.1.1, ⟨hk.1.2.2, hk.2⟩⟩, hk.1.2.1⟩))).2.1 (Kd.V_F (Kd.V_mono (ok' := (fun k_ => ((fun k_ => (P0_ k_ ∨ w.heap.size ≤ k_) ∧ some k_ ≠ (u3 : Value).ownBlock ∧ k_ ≠ gb151)) k_ ∧ some k_ ≠ (u2 : Value).ownBlock)) (HL150_1.out) (fun k_ hk => ⟨⟨hk.1.1, ⟨hk.1.2.2, hk.2⟩⟩, hk.1.2.1⟩))))); (case aB => exact (by repeat (first | (with_reducible first | exact HB.out | apply below_alloc | apply pw_below_drewN | apply below_drew1 | refine below_set ?_ GE151.out) | exact HB.out))); (case aF => exact (fun k_ hk => ⟨(.inr (Nat.le_trans (below_size (by repeat (first | (with_reducible first | exact HB.out | apply below_alloc | apply pw_below_drewN | apply below_drew1 | refine below_set ?_ GE151.out) | exact HB.out))) hk)), Kd.fresh' (Kd.N_lt (by (with_reducible repeat (first | apply Kd.N_alloc | apply Kd.N_drewN | apply Kd.N_drew)); exact HO_3.out)) k_ hk, Kd.freshB (g := gb151) (o := .cells #[.string ((rd_T47 l0 x12_1).f0), .slice A150_1 ((rd_T47 l0 x12_1).f1).length c150_1] 47 (0, 0)) (by (with_reducible repeat (first | refine blk_drewN ?_ _ | refine blk_drew ?_ | refine blk_alloc ?_ _)); exact BK151.out) k_ hk⟩)); (case aO => exact (by (with_reducible repeat (first | apply Kd.N_alloc | apply Kd.N_drewN | apply Kd.N_drew)); exact Kd.N_mono HO_2.out (fun _ hk => ⟨hk.1.1, ⟨hk.1.2, hk.2⟩⟩))); (case aS => exact (below_size (by repeat (first | (with_reducible first | exact HB.out | apply below_alloc | apply pw_below_drewN | apply below_drew1 | refine below_set ?_ GE151.out) | exact HB.out)))); (case aL => have := LMc7.out; omega); intro v154 w12 ho hb hg hat; rw [← Ny153.out] at ho; have n0_ := Aside0.mk (Kd.N_afterv (ok := (fun k_ => (P0_ k_ ∨ w.heap.size ≤ k_) ∧ k_ ≠ gb151)) (by (with_reducible repeat (first | apply Kd.N_alloc | apply Kd.N_drewN | apply Kd.N_drew)); exact Kd.N_mono HO_3.out (fun _ hk => ⟨⟨hk.1.1, hk.2⟩, hk.1.2⟩)) hg hat); have n1_ := Aside0.mk (Kd.V_afterv (ok := (fun k_ => (P0_ k_ ∨ w.heap.size ≤ k_) ∧ some k_ ≠ (u3 : Value).ownBlock ∧ k_ ≠ gb151)) (by (with_reducible repeat (first | apply Kd.V_alloc | apply Kd.V_drewN | apply Kd.V_drew)); exact Kd.V_mono HO_10.out (fun _ hk => ⟨⟨hk.1.1, ⟨hk.1.2.2, hk.2⟩⟩, hk.1.2.1⟩)) hg hat); have n2_ := Aside0.mk (Kd.V_afterv (ok := (fun k_ => (P0_ k_ ∨ w.heap.size ≤ k_) ∧ some k_ ≠ (u3 : Value).ownBlock ∧ k_ ≠ gb151)) (by (with_reducible repeat (first | apply Kd.V_alloc | apply Kd.V_drewN | apply Kd.V_drew)); exact Kd.V_mono HL150_1.out (fun _ hk => ⟨⟨hk.1.1, ⟨hk.1.2.2, hk.2⟩⟩, hk.1.2.1⟩)) hg hat); have n3_ := Aside0.mk (blk_grown (g := gb151) (o := .cells #[.string ((rd_T47 l0 x12_1).f0), .slice A150_1 ((rd_T47 l0 x12_1).f1).length c150_1] 47 (0, 0)) (by (with_reducible repeat (first | refine blk_drewN ?_ _ | refine blk_drew ?_ | refine blk_alloc ?_ _)); exact BK151.out) hg (Kd.N_away HO_2.out (fun _ hk => hk.2))); have n4_ := Aside0.mk (hb); have n5_ := Aside0.mk (ho); clear HO_3; clear HO_10; clear HL150_1; clear BK151; clear HB; clear HO_2; have HO_3 := n0_; have HO_10 := n1_; have HL150_1 := n2_; have BK151 := n3_; have HB := n4_; have HO155 := n5_; clear n0_ n1_ n2_ n3_ n4_ n5_; clear ho hb hg hat))
                go_roundg k1
                case measure => have := HK1.out; omega
                case rel => exact ⟨(y153), (x3_1), (wrap64 (x5_1 - t152)), (x6_1), (wrap64 (x12_1 + 1)), (by first | rfl | (simp; done) | (simp [*]; done)), (by first | rfl | (simp; done) | (simp [*]; done)), (by first | rfl | (simp; done) | (simp [*]; done)), H', ⟨by have := HK1.out; omega⟩, ⟨by (with_reducible repeat (first | apply Kd.N_alloc | apply Kd.N_drewN | apply Kd.N_drew)); exact Kd.N_mono HO155.out (fun _ hk => ⟨hk.1, hk.2.1⟩)⟩, ⟨by (with_reducible repeat (first | apply Kd.N_alloc | apply Kd.N_drewN | apply Kd.N_drew)); exact Kd.N_mono HO_3.out (fun _ hk => ⟨hk.1.1, hk.2⟩)⟩, ⟨by (with_reducible repeat (first | apply Kd.V_alloc | apply Kd.V_drewN | apply Kd.V_drew)); exact Kd.V_mono HO_10.out (fun _ hk => ⟨hk.1.1, ⟨hk.2, hk.1.2.1⟩⟩)⟩, ⟨by repeat (first | (with_reducible first | exact HB.out | apply below_alloc | apply pw_below_drewN | apply below_drew1 | refine below_set ?_ GE151.out) | exact HB.out)⟩⟩
              · rw [if_neg c7] at H
                exact absurd H (by simp)
            · rw [if_neg c6] at H
              have c6b0 : decide (t152 ≤ x5_1) = false := decide_eq_false c6
              clear c6
              by_cases c13 : t152 ≤ x6_1
              · rw [if_pos c13] at H
                have c13b0 : decide (t152 ≤ x6_1) = true := decide_eq_true c13
                clear c13
                by_cases c14 : x3_1.length < 3518437208883
                · rw [if_pos c14] at H
                  have LMc14 := Aside0.mk c14
                  clear c14
                  obtain ⟨y156, hy156⟩ : ∃ y_ : List (S47), y_ = (x3_1 ++ [(⟨(rd_T47 l0 x12_1).f0, (rd_T47 l0 x12_1).f1⟩ : S47)]) := ⟨_, rfl⟩
                  replace H : (spec_Fitted.l0 k1 x2_1 y156 x5_1 (wrap64 (x6_1 - t152)) l0 (l0.length : Int) (wrap64 (x12_1 + 1))) = some (r1, r2, r3) := by first | (rw [hy156]; with_reducible exact H) | (have H2_ := (Option.bind_some _ _).symm.trans H; rw [hy156]; with_reducible exact H2_) | (have H2_ := (Option.bind_some _ _).symm.trans H; with_reducible exact H2_) | with_reducible exact H | (rw [hy156]; exact H) | exact H
                  have Ny156 := Aside0.mk hy156
                  clear hy156
                  have H' := Aside0.mk H
                  clear H
                  have p150 : 0 ≤ (x12_1 : Int) := of_decide_eq_true (by first | (with_reducible assumption) | assumption)
                  have q150 : x12_1 < (l0.length : Int) := of_decide_eq_true (by first | (with_reducible assumption) | assumption)
                  obtain ⟨ad150, A150_1, c150_1, e150, hx150_0, hx150_1, hl150_1, hi150_1⟩ := at_T47 (Kd.V_reads' HO_10.out).2.2 x12_1 p150 q150
                  cases e150
                  obtain ⟨ce150, hce150, hMe150, hcc150⟩ := Kd.V_get HO_10.out z47 x12_1 p150 (by first | exact q150 | exact of_decide_eq_true (by first | (with_reducible assumption) | assumption) | (have e_ := (Kd.V_reads' HO_10.out).1; omega))
                  obtain ⟨ua150_1, uc150_1, rfl, ul150_1, ge150_1⟩ := k47_openF hMe150
                  have hv150_1 := hcc150 1 _ rfl
                  rw [add_field _ _ 1 (by omega)] at hv150_1
                  replace hv150_1 := Option.some.inj (hv150_1.symm.trans hx150_1)
                  injection hv150_1 with hva_ hvn_ hvc_
                  rw [hva_] at ge150_1
                  rw [hvc_] at ul150_1
                  have HL150_1 := Aside0.mk (show Kd.V (Kd.int .u8) 5 _ w.heap.size _ _ ((rd_T47 l0 x12_1).f1) from Kd.V_mk ul150_1 ge150_1)
                  clear hva_ hvn_ hvc_ ge150_1 ul150_1
                  clear hcc150 hce150
                  have HR150_1 := Aside0.mk hi150_1
                  have HC150_1 := Aside0.mk hl150_1
                  clear hi150_1 hl150_1
                  replace p150 := eq_true p150
                  replace q150 := eq_true q150
                  go_wp2_with (first | ((with_reducible refine gate_dst (N := 8) rfl ?_); refine box_event ?hg (N := 8) ?hd (cs := #[.string (⟨#[]⟩ : ByteArray), .slice none 0 0]) (t := 47) ?hr ?_; (case hd => rfl); (case hg => rfl); (case hr => first | (go_simp; done) | (go_simp; rfl)); intro gb151 hg w15 hbox hb; have n0_ := Aside0.mk (Kd.N_below (Kd.N_elderB (by (with_reducible repeat (first | apply Kd.N_alloc | apply Kd.N_drewN | apply Kd.N_drew)); exact HO_2.out) gb151 (Nat.le_of_eq hg.symm)) hb); have n1_ := Aside0.mk (Kd.N_below (Kd.N_elderB (by (with_reducible repeat (first | apply Kd.N_alloc | apply Kd.N_drewN | apply Kd.N_drew)); exact HO_3.out) gb151 (Nat.le_of_eq hg.symm)) hb); have n2_ := Aside0.mk (Kd.V_below (Kd.V_elderB (by (with_reducible repeat (first | apply Kd.V_alloc | apply Kd.V_drewN | apply Kd.V_drew)); exact HO_10.out) gb151 (Nat.le_of_eq hg.symm)) hb); have n3_ := Aside0.mk (Kd.V_below (Kd.V_elderB (by (with_reducible repeat (first | apply Kd.V_alloc | apply Kd.V_drewN | apply Kd.V_drew)); exact HL150_1.out) gb151 (Nat.le_of_eq hg.symm)) hb); have n4_ := Aside0.mk (Kd.C_below (by repeat (first | (with_reducible exact HR150_1.out) | (with_reducible refine Kd.C_alloc ?_ _) | (with_reducible refine Kd.C_drewN ?_ _) | (with_reducible refine Kd.C_drew ?_) | exact HR150_1.out)) hb); have n5_ := Aside0.mk (below_step (by repeat (first | (with_reducible first | exact HB.out | apply below_alloc | apply pw_below_drewN | apply below_drew1) | exact HB.out)) hb); have n6_ := Aside0.mk (hbox); have n7_ := Aside0.mk ((by rw [hg]; exact (below_size (by repeat (first | (with_reducible first | exact HB.out | apply below_alloc | apply pw_below_drewN | apply below_drew1) | exact HB.out))) : w.heap.size ≤ gb151)); have n8_ := Aside0.mk ((by rw [hg]; exact (below_size (by repeat (first | (with_reducible first | exact HB.out | apply below_alloc | apply pw_below_drewN | apply below_drew1) | exact HB.out))) : w.heap.size ≤ gb151)); clear HO_2; clear HO_3; clear HO_10; clear HL150_1; clear HR150_1; clear HB; have HO_2 := n0_; have HO_3 := n1_; have HO_10 := n2_; have HL150_1 := n3_; have HR150_1 := n4_; have HB := n5_; have BK151 := n6_; have GW151 := n7_; have GE151 := n8_; clear n0_ n1_ n2_ n3_ n4_ n5_ n6_ n7_ n8_; clear hb hbox hg; have hcz16_0 : w15.cell? ⟨gb151, 0, none⟩ = some (.string (⟨#[]⟩ : ByteArray)) := (blk_cell BK151.out 0).trans rfl; have hcz16_1 : w15.cell? ⟨gb151, 1, none⟩ = some (.slice none 0 0) := (blk_cell BK151.out 1).trans rfl; have hfz16_0 := blk_frozen BK151.out 0; have hfz16_1 := blk_frozen BK151.out 1) | ((with_reducible refine gate_callee (f := 16) rfl ?_); refine goesL_ (some 17) rfl rfl Tryd.func16 (by kernel_rfl) rfl #[.agg #[.string ((rd_T47 l0 x12_1).f0), .slice A150_1 ((rd_T47 l0 x12_1).f1).length c150_1]] rfl (by (try simp only [List.map_toArray, List.map_cons, List.map_nil]); first | done | rfl | (simp only [List.length_drop, List.length_take]; rfl)) ?_; (with_reducible refine (spec_room.calls k1 ((rd_T47 l0 x12_1).f0) _ _ ((rd_T47 l0 x12_1).f1) t152 _ ?side1 ?side2 A5.out).mono ?_); (case side1 => repeat (first | exact ((Kd.V_reads' (by (with_reducible repeat (first | apply Kd.V_alloc | apply Kd.V_drewN | apply Kd.V_drew)); exact (Kd.V_mono (Kd.V_far (p := ⟨gb151, 1, none⟩) (Kd.V_far (p := ⟨gb151, 0, none⟩) (Kd.V_mono HL150_1.out (fun k_ hk => (⟨hk, hk.2⟩ : _ ∧ k_ ≠ gb151))) (fun _ hk => hk.2) (.string ((rd_T47 l0 x12_1).f0))) (fun _ hk => hk.2) (.slice A150_1 ((rd_T47 l0 x12_1).f1).length c150_1)) (fun _ h_ => h_.1)))).2.2) | (with_reducible refine Kd.C_alloc ?_ _) | (with_reducible refine Kd.C_drewN ?_ _) | (with_reducible refine Kd.C_drew ?_))); (case side2 => exact HC150_1.out); rintro e w17 ⟨rfl, hb⟩; refine ⟨_, rfl, ?_⟩; have n0_ := Aside0.mk (Kd.N_below (by (with_reducible repeat (first | apply Kd.N_alloc | apply Kd.N_drewN | apply Kd.N_drew)); exact (Kd.N_mono (Kd.N_far (p := ⟨gb151, 1, none⟩) (Kd.N_far (p := ⟨gb151, 0, none⟩) (Kd.N_mono HO_2.out (fun k_ hk => (⟨hk, hk.2⟩ : _ ∧ k_ ≠ gb151))) (fun _ hk => hk.2) (.string ((rd_T47 l0 x12_1).f0))) (fun _ hk => hk.2) (.slice A150_1 ((rd_T47 l0 x12_1).f1).length c150_1)) (fun _ h_ => h_.1))) hb); have n1_ := Aside0.mk (Kd.N_below (by (with_reducible repeat (first | apply Kd.N_alloc | apply Kd.N_drewN | apply Kd.N_drew)); exact (Kd.N_mono (Kd.N_far (p := ⟨gb151, 1, none⟩) (Kd.N_far (p := ⟨gb151, 0, none⟩) (Kd.N_mono HO_3.out (fun k_ hk => (⟨hk, hk.2⟩ : _ ∧ k_ ≠ gb151))) (fun _ hk => hk.2) (.string ((rd_T47 l0 x12_1).f0))) (fun _ hk => hk.2) (.slice A150_1 ((rd_T47 l0 x12_1).f1).length c150_1)) (fun _ h_ => h_.1))) hb); have n2_ := Aside0.mk (Kd.V_below (by (with_reducible repeat (first | apply Kd.V_alloc | apply Kd.V_drewN | apply Kd.V_drew)); exact (Kd.V_mono (Kd.V_far (p := ⟨gb151, 1, none⟩) (Kd.V_far (p := ⟨gb151, 0, none⟩) (Kd.V_mono HO_10.out (fun k_ hk => (⟨hk, hk.2⟩ : _ ∧ k_ ≠ gb151))) (fun _ hk => hk.2) (.string ((rd_T47 l0 x12_1).f0))) (fun _ hk => hk.2) (.slice A150_1 ((rd_T47 l0 x12_1).f1).length c150_1)) (fun _ h_ => h_.1))) hb); have n3_ := Aside0.mk (Kd.V_below (by (with_reducible repeat (first | apply Kd.V_alloc | apply Kd.V_drewN | apply Kd.V_drew)); exact (Kd.V_mono (Kd.V_far (p := ⟨gb151, 1, none⟩) (Kd.V_far (p := ⟨gb151, 0, none⟩) (Kd.V_mono HL150_1.out (fun k_ hk => (⟨hk, hk.2⟩ : _ ∧ k_ ≠ gb151))) (fun _ hk => hk.2) (.string ((rd_T47 l0 x12_1).f0))) (fun _ hk => hk.2) (.slice A150_1 ((rd_T47 l0 x12_1).f1).length c150_1)) (fun _ h_ => h_.1))) hb); have n4_ := Aside0.mk (Kd.C_below ((Kd.V_reads' (by (with_reducible repeat (first | apply Kd.V_alloc | apply Kd.V_drewN | apply Kd.V_drew)); exact (Kd.V_mono (Kd.V_far (p := ⟨gb151, 1, none⟩) (Kd.V_far (p := ⟨gb151, 0, none⟩) (Kd.V_mono HL150_1.out (fun k_ hk => (⟨hk, hk.2⟩ : _ ∧ k_ ≠ gb151))) (fun _ hk => hk.2) (.string ((rd_T47 l0 x12_1).f0))) (fun _ hk => hk.2) (.slice A150_1 ((rd_T47 l0 x12_1).f1).length c150_1)) (fun _ h_ => h_.1)))).2.2) hb); have n5_ := Aside0.mk (blk_below (g := gb151) (o := .cells #[.string ((rd_T47 l0 x12_1).f0), .slice A150_1 ((rd_T47 l0 x12_1).f1).length c150_1] 47 (0, 0)) (by (with_reducible repeat (first | refine blk_drewN ?_ _ | refine blk_drew ?_ | refine blk_alloc ?_ _)); refine blk_put (cs := #[.string ((rd_T47 l0 x12_1).f0), .slice none 0 0]) ?_ 1 _ rfl; (with_reducible repeat (first | refine blk_drewN ?_ _ | refine blk_drew ?_ | refine blk_alloc ?_ _)); refine blk_put (cs := #[.string (⟨#[]⟩ : ByteArray), .slice none 0 0]) ?_ 0 _ rfl; (with_reducible repeat (first | refine blk_drewN ?_ _ | refine blk_drew ?_ | refine blk_alloc ?_ _)); exact BK151.out) hb); have n6_ := Aside0.mk (below_step (by repeat (first | (with_reducible first | exact HB.out | apply below_alloc | apply pw_below_drewN | apply below_drew1 | refine below_set ?_ GE151.out) | exact HB.out)) hb); clear HO_2; clear HO_3; clear HO_10; clear HL150_1; clear HR150_1; clear BK151; clear HB; have HO_2 := n0_; have HO_3 := n1_; have HO_10 := n2_; have HL150_1 := n3_; have HR150_1 := n4_; have BK151 := n5_; have HB := n6_; clear n0_ n1_ n2_ n3_ n4_ n5_ n6_; (try clear hb); (try clear hb2); (try clear hk); (try clear hi); have hcz18_0 : w17.cell? ⟨gb151, 0, none⟩ = some (.string ((rd_T47 l0 x12_1).f0)) := (blk_cell BK151.out 0).trans rfl; have hcz18_1 : w17.cell? ⟨gb151, 1, none⟩ = some (.slice A150_1 ((rd_T47 l0 x12_1).f1).length c150_1) := (blk_cell BK151.out 1).trans rfl; have hfz18_0 := blk_frozen BK151.out 0; have hfz18_1 := blk_frozen BK151.out 1) | ((with_reducible refine gate_builtin (b := .append) (xs := #[.tmp 38, .tmp 40]) rfl ?_); at_builtin; refine Kd.N_append k47 (w0 := w) w.heap.size rfl (.tmp 38) (.tmp 40) 27 47 (.agg #[(.string ⟨#[]⟩), (.slice none 0 0)]) 40 rfl Tryd.underlying27 info47 rfl (by decide) (by omega) u3 x3_1 (⟨(rd_T47 l0 x12_1).f0, (rd_T47 l0 x12_1).f1⟩ : S47) [.string ((rd_T47 l0 x12_1).f0), .slice A150_1 ((rd_T47 l0 x12_1).f1).length c150_1] (fun k_ => (P0_ k_ ∨ w.heap.size ≤ k_) ∧ some k_ ≠ (u2 : Value).ownBlock ∧ k_ ≠ gb151) (fun k_ => ((fun k_ => (P0_ k_ ∨ w.heap.size ≤ k_) ∧ some k_ ≠ (u2 : Value).ownBlock ∧ k_ ≠ gb151)) k_ ∧ some k_ ≠ (u3 : Value).ownBlock) rfl rfl ?aP (fun _ hk => hk) ?aF ?aO ?aB ?aS ?aL ?_; (case aP => exact (k47_mkF _ _ (⟨(rd_T47 l0 x12_1).f0, (rd_T47 l0 x12_1).f1⟩ : S47) (Kd.V_reads' (Kd.V_mono (ok' := (fun k_ => ((fun k_ => (P0_ k_ ∨ w.heap.size ≤ k_) ∧ some k_ ≠ (u2 : Value).ownBlock ∧ k_ ≠ gb151)) k_ ∧ some k_ ≠ (u3 : Value).ownBlock)) (HL150_1.out) (fun k_ hk => ⟨⟨hk.1.1, ⟨hk.1.2.1, hk.2⟩⟩, hk.1.2.2⟩))).2.1 (Kd.V_F (Kd.V_mono (ok' := (fun k_ => ((fun k_ => (P0_ k_ ∨ w.heap.size ≤ k_) ∧ some k_ ≠ (u2 : Value).ownBlock ∧ k_ ≠ gb151)) k_ ∧ some k_ ≠ (u3 : Value).ownBlock)) (HL150_1.out) (fun k_ hk => ⟨⟨hk.1.1, ⟨hk.1.2.1, hk.2⟩⟩, hk.1.2.2⟩))))); (case aB => exact (by repeat (first | (with_reducible first | exact HB.out | apply below_alloc | apply pw_below_drewN | apply below_drew1 | refine below_set ?_ GE151.out) | exact HB.out))); (case aF => exact (fun k_ hk => ⟨(.inr (Nat.le_trans (below_size (by repeat (first | (with_reducible first | exact HB.out | apply below_alloc | apply pw_below_drewN | apply below_drew1 | refine below_set ?_ GE151.out) | exact HB.out))) hk)), Kd.fresh' (Kd.N_lt (by (with_reducible repeat (first | apply Kd.N_alloc | apply Kd.N_drewN | apply Kd.N_drew)); exact HO_2.out)) k_ hk, Kd.freshB (g := gb151) (o := .cells #[.string ((rd_T47 l0 x12_1).f0), .slice A150_1 ((rd_T47 l0 x12_1).f1).length c150_1] 47 (0, 0)) (by (with_reducible repeat (first | refine blk_drewN ?_ _ | refine blk_drew ?_ | refine blk_alloc ?_ _)); exact BK151.out) k_ hk⟩)); (case aO => exact (by (with_reducible repeat (first | apply Kd.N_alloc | apply Kd.N_drewN | apply Kd.N_drew)); exact Kd.N_mono HO_3.out (fun _ hk => ⟨hk.1.1, ⟨hk.1.2, hk.2⟩⟩))); (case aS => exact (below_size (by repeat (first | (with_reducible first | exact HB.out | apply below_alloc | apply pw_below_drewN | apply below_drew1 | refine below_set ?_ GE151.out) | exact HB.out)))); (case aL => have := LMc14.out; omega); intro v157 w19 ho hb hg hat; rw [← Ny156.out] at ho; have n0_ := Aside0.mk (Kd.N_afterv (ok := (fun k_ => (P0_ k_ ∨ w.heap.size ≤ k_) ∧ k_ ≠ gb151)) (by (with_reducible repeat (first | apply Kd.N_alloc | apply Kd.N_drewN | apply Kd.N_drew)); exact Kd.N_mono HO_2.out (fun _ hk => ⟨⟨hk.1.1, hk.2⟩, hk.1.2⟩)) hg hat); have n1_ := Aside0.mk (Kd.V_afterv (ok := (fun k_ => (P0_ k_ ∨ w.heap.size ≤ k_) ∧ some k_ ≠ (u2 : Value).ownBlock ∧ k_ ≠ gb151)) (by (with_reducible repeat (first | apply Kd.V_alloc | apply Kd.V_drewN | apply Kd.V_drew)); exact Kd.V_mono HO_10.out (fun _ hk => ⟨⟨hk.1.1, ⟨hk.1.2.1, hk.2⟩⟩, hk.1.2.2⟩)) hg hat); have n2_ := Aside0.mk (Kd.V_afterv (ok := (fun k_ => (P0_ k_ ∨ w.heap.size ≤ k_) ∧ some k_ ≠ (u2 : Value).ownBlock ∧ k_ ≠ gb151)) (by (with_reducible repeat (first | apply Kd.V_alloc | apply Kd.V_drewN | apply Kd.V_drew)); exact Kd.V_mono HL150_1.out (fun _ hk => ⟨⟨hk.1.1, ⟨hk.1.2.1, hk.2⟩⟩, hk.1.2.2⟩)) hg hat); have n3_ := Aside0.mk (blk_grown (g := gb151) (o := .cells #[.string ((rd_T47 l0 x12_1).f0), .slice A150_1 ((rd_T47 l0 x12_1).f1).length c150_1] 47 (0, 0)) (by (with_reducible repeat (first | refine blk_drewN ?_ _ | refine blk_drew ?_ | refine blk_alloc ?_ _)); exact BK151.out) hg (Kd.N_away HO_3.out (fun _ hk => hk.2))); have n4_ := Aside0.mk (hb); have n5_ := Aside0.mk (ho); clear HO_2; clear HO_10; clear HL150_1; clear BK151; clear HB; clear HO_3; have HO_2 := n0_; have HO_10 := n1_; have HL150_1 := n2_; have BK151 := n3_; have HB := n4_; have HO158 := n5_; clear n0_ n1_ n2_ n3_ n4_ n5_; clear ho hb hg hat))
                  go_roundg k1
                  case measure => have := HK1.out; omega
                  case rel => exact ⟨(x2_1), (y156), (x5_1), (wrap64 (x6_1 - t152)), (wrap64 (x12_1 + 1)), (by first | rfl | (simp; done) | (simp [*]; done)), (by first | rfl | (simp; done) | (simp [*]; done)), (by first | rfl | (simp; done) | (simp [*]; done)), H', ⟨by have := HK1.out; omega⟩, ⟨by (with_reducible repeat (first | apply Kd.N_alloc | apply Kd.N_drewN | apply Kd.N_drew)); exact Kd.N_mono HO_2.out (fun _ hk => ⟨hk.1.1, hk.2⟩)⟩, ⟨by (with_reducible repeat (first | apply Kd.N_alloc | apply Kd.N_drewN | apply Kd.N_drew)); exact Kd.N_mono HO158.out (fun _ hk => ⟨hk.1, hk.2.1⟩)⟩, ⟨by (with_reducible repeat (first | apply Kd.V_alloc | apply Kd.V_drewN | apply Kd.V_drew)); exact Kd.V_mono HO_10.out (fun _ hk => ⟨hk.1.1, ⟨hk.1.2.1, hk.2⟩⟩)⟩, ⟨by repeat (first | (with_reducible first | exact HB.out | apply below_alloc | apply pw_below_drewN | apply below_drew1 | refine below_set ?_ GE151.out) | exact HB.out)⟩⟩
                · rw [if_neg c14] at H
                  exact absurd H (by simp)
              · rw [if_neg c13] at H
                have c13b0 : decide (t152 ≤ x6_1) = false := decide_eq_false c13
                clear c13
                simp only [Option.some.injEq, Prod.mk.injEq] at H
                obtain ⟨rfl, rfl, rfl⟩ := H
                have p150 : 0 ≤ (x12_1 : Int) := of_decide_eq_true (by first | (with_reducible assumption) | assumption)
                have q150 : x12_1 < (l0.length : Int) := of_decide_eq_true (by first | (with_reducible assumption) | assumption)
                obtain ⟨ad150, A150_1, c150_1, e150, hx150_0, hx150_1, hl150_1, hi150_1⟩ := at_T47 (Kd.V_reads' HO_10.out).2.2 x12_1 p150 q150
                cases e150
                obtain ⟨ce150, hce150, hMe150, hcc150⟩ := Kd.V_get HO_10.out z47 x12_1 p150 (by first | exact q150 | exact of_decide_eq_true (by first | (with_reducible assumption) | assumption) | (have e_ := (Kd.V_reads' HO_10.out).1; omega))
                obtain ⟨ua150_1, uc150_1, rfl, ul150_1, ge150_1⟩ := k47_openF hMe150
                have hv150_1 := hcc150 1 _ rfl
                rw [add_field _ _ 1 (by omega)] at hv150_1
                replace hv150_1 := Option.some.inj (hv150_1.symm.trans hx150_1)
                injection hv150_1 with hva_ hvn_ hvc_
                rw [hva_] at ge150_1
                rw [hvc_] at ul150_1
                have HL150_1 := Aside0.mk (show Kd.V (Kd.int .u8) 5 _ w.heap.size _ _ ((rd_T47 l0 x12_1).f1) from Kd.V_mk ul150_1 ge150_1)
                clear hva_ hvn_ hvc_ ge150_1 ul150_1
                clear hcc150 hce150
                have HR150_1 := Aside0.mk hi150_1
                have HC150_1 := Aside0.mk hl150_1
                clear hi150_1 hl150_1
                replace p150 := eq_true p150
                replace q150 := eq_true q150
                go_wp2_with (first | ((with_reducible refine gate_dst (N := 8) rfl ?_); refine box_event ?hg (N := 8) ?hd (cs := #[.string (⟨#[]⟩ : ByteArray), .slice none 0 0]) (t := 47) ?hr ?_; (case hd => rfl); (case hg => rfl); (case hr => first | (go_simp; done) | (go_simp; rfl)); intro gb151 hg w20 hbox hb; have n0_ := Aside0.mk (Kd.N_below (Kd.N_elderB (by (with_reducible repeat (first | apply Kd.N_alloc | apply Kd.N_drewN | apply Kd.N_drew)); exact HO_2.out) gb151 (Nat.le_of_eq hg.symm)) hb); have n1_ := Aside0.mk (Kd.N_below (Kd.N_elderB (by (with_reducible repeat (first | apply Kd.N_alloc | apply Kd.N_drewN | apply Kd.N_drew)); exact HO_3.out) gb151 (Nat.le_of_eq hg.symm)) hb); have n2_ := Aside0.mk (Kd.V_below (Kd.V_elderB (by (with_reducible repeat (first | apply Kd.V_alloc | apply Kd.V_drewN | apply Kd.V_drew)); exact HO_10.out) gb151 (Nat.le_of_eq hg.symm)) hb); have n3_ := Aside0.mk (Kd.V_below (Kd.V_elderB (by (with_reducible repeat (first | apply Kd.V_alloc | apply Kd.V_drewN | apply Kd.V_drew)); exact HL150_1.out) gb151 (Nat.le_of_eq hg.symm)) hb); have n4_ := Aside0.mk (Kd.C_below (by repeat (first | (with_reducible exact HR150_1.out) | (with_reducible refine Kd.C_alloc ?_ _) | (with_reducible refine Kd.C_drewN ?_ _) | (with_reducible refine Kd.C_drew ?_) | exact HR150_1.out)) hb); have n5_ := Aside0.mk (below_step (by repeat (first | (with_reducible first | exact HB.out | apply below_alloc | apply pw_below_drewN | apply below_drew1) | exact HB.out)) hb); have n6_ := Aside0.mk (hbox); have n7_ := Aside0.mk ((by rw [hg]; exact (below_size (by repeat (first | (with_reducible first | exact HB.out | apply below_alloc | apply pw_below_drewN | apply below_drew1) | exact HB.out))) : w.heap.size ≤ gb151)); have n8_ := Aside0.mk ((by rw [hg]; exact (below_size (by repeat (first | (with_reducible first | exact HB.out | apply below_alloc | apply pw_below_drewN | apply below_drew1) | exact HB.out))) : w.heap.size ≤ gb151)); clear HO_2; clear HO_3; clear HO_10; clear HL150_1; clear HR150_1; clear HB; have HO_2 := n0_; have HO_3 := n1_; have HO_10 := n2_; have HL150_1 := n3_; have HR150_1 := n4_; have HB := n5_; have BK151 := n6_; have GW151 := n7_; have GE151 := n8_; clear n0_ n1_ n2_ n3_ n4_ n5_ n6_ n7_ n8_; clear hb hbox hg; have hcz21_0 : w20.cell? ⟨gb151, 0, none⟩ = some (.string (⟨#[]⟩ : ByteArray)) := (blk_cell BK151.out 0).trans rfl; have hcz21_1 : w20.cell? ⟨gb151, 1, none⟩ = some (.slice none 0 0) := (blk_cell BK151.out 1).trans rfl; have hfz21_0 := blk_frozen BK151.out 0; have hfz21_1 := blk_frozen BK151.out 1) | ((with_reducible refine gate_callee (f := 16) rfl ?_); refine goesL_ (some 17) rfl rfl Tryd.func16 (by kernel_rfl) rfl #[.agg #[.string ((rd_T47 l0 x12_1).f0), .slice A150_1 ((rd_T47 l0 x12_1).f1).length c150_1]] rfl (by (try simp only [List.map_toArray, List.map_cons, List.map_nil]); first | done | rfl | (simp only [List.length_drop, List.length_take]; rfl)) ?_; (with_reducible refine (spec_room.calls k1 ((rd_T47 l0 x12_1).f0) _ _ ((rd_T47 l0 x12_1).f1) t152 _ ?side1 ?side2 A5.out).mono ?_); (case side1 => repeat (first | exact ((Kd.V_reads' (by (with_reducible repeat (first | apply Kd.V_alloc | apply Kd.V_drewN | apply Kd.V_drew)); exact (Kd.V_mono (Kd.V_far (p := ⟨gb151, 1, none⟩) (Kd.V_far (p := ⟨gb151, 0, none⟩) (Kd.V_mono HL150_1.out (fun k_ hk => (⟨hk, hk.2⟩ : _ ∧ k_ ≠ gb151))) (fun _ hk => hk.2) (.string ((rd_T47 l0 x12_1).f0))) (fun _ hk => hk.2) (.slice A150_1 ((rd_T47 l0 x12_1).f1).length c150_1)) (fun _ h_ => h_.1)))).2.2) | (with_reducible refine Kd.C_alloc ?_ _) | (with_reducible refine Kd.C_drewN ?_ _) | (with_reducible refine Kd.C_drew ?_))); (case side2 => exact HC150_1.out); rintro e w22 ⟨rfl, hb⟩; refine ⟨_, rfl, ?_⟩; have n0_ := Aside0.mk (Kd.N_below (by (with_reducible repeat (first | apply Kd.N_alloc | apply Kd.N_drewN | apply Kd.N_drew)); exact (Kd.N_mono (Kd.N_far (p := ⟨gb151, 1, none⟩) (Kd.N_far (p := ⟨gb151, 0, none⟩) (Kd.N_mono HO_2.out (fun k_ hk => (⟨hk, hk.2⟩ : _ ∧ k_ ≠ gb151))) (fun _ hk => hk.2) (.string ((rd_T47 l0 x12_1).f0))) (fun _ hk => hk.2) (.slice A150_1 ((rd_T47 l0 x12_1).f1).length c150_1)) (fun _ h_ => h_.1))) hb); have n1_ := Aside0.mk (Kd.N_below (by (with_reducible repeat (first | apply Kd.N_alloc | apply Kd.N_drewN | apply Kd.N_drew)); exact (Kd.N_mono (Kd.N_far (p := ⟨gb151, 1, none⟩) (Kd.N_far (p := ⟨gb151, 0, none⟩) (Kd.N_mono HO_3.out (fun k_ hk => (⟨hk, hk.2⟩ : _ ∧ k_ ≠ gb151))) (fun _ hk => hk.2) (.string ((rd_T47 l0 x12_1).f0))) (fun _ hk => hk.2) (.slice A150_1 ((rd_T47 l0 x12_1).f1).length c150_1)) (fun _ h_ => h_.1))) hb); have n2_ := Aside0.mk (Kd.V_below (by (with_reducible repeat (first | apply Kd.V_alloc | apply Kd.V_drewN | apply Kd.V_drew)); exact (Kd.V_mono (Kd.V_far (p := ⟨gb151, 1, none⟩) (Kd.V_far (p := ⟨gb151, 0, none⟩) (Kd.V_mono HO_10.out (fun k_ hk => (⟨hk, hk.2⟩ : _ ∧ k_ ≠ gb151))) (fun _ hk => hk.2) (.string ((rd_T47 l0 x12_1).f0))) (fun _ hk => hk.2) (.slice A150_1 ((rd_T47 l0 x12_1).f1).length c150_1)) (fun _ h_ => h_.1))) hb); have n3_ := Aside0.mk (Kd.V_below (by (with_reducible repeat (first | apply Kd.V_alloc | apply Kd.V_drewN | apply Kd.V_drew)); exact (Kd.V_mono (Kd.V_far (p := ⟨gb151, 1, none⟩) (Kd.V_far (p := ⟨gb151, 0, none⟩) (Kd.V_mono HL150_1.out (fun k_ hk => (⟨hk, hk.2⟩ : _ ∧ k_ ≠ gb151))) (fun _ hk => hk.2) (.string ((rd_T47 l0 x12_1).f0))) (fun _ hk => hk.2) (.slice A150_1 ((rd_T47 l0 x12_1).f1).length c150_1)) (fun _ h_ => h_.1))) hb); have n4_ := Aside0.mk (Kd.C_below ((Kd.V_reads' (by (with_reducible repeat (first | apply Kd.V_alloc | apply Kd.V_drewN | apply Kd.V_drew)); exact (Kd.V_mono (Kd.V_far (p := ⟨gb151, 1, none⟩) (Kd.V_far (p := ⟨gb151, 0, none⟩) (Kd.V_mono HL150_1.out (fun k_ hk => (⟨hk, hk.2⟩ : _ ∧ k_ ≠ gb151))) (fun _ hk => hk.2) (.string ((rd_T47 l0 x12_1).f0))) (fun _ hk => hk.2) (.slice A150_1 ((rd_T47 l0 x12_1).f1).length c150_1)) (fun _ h_ => h_.1)))).2.2) hb); have n5_ := Aside0.mk (blk_below (g := gb151) (o := .cells #[.string ((rd_T47 l0 x12_1).f0), .slice A150_1 ((rd_T47 l0 x12_1).f1).length c150_1] 47 (0, 0)) (by (with_reducible repeat (first | refine blk_drewN ?_ _ | refine blk_drew ?_ | refine blk_alloc ?_ _)); refine blk_put (cs := #[.string ((rd_T47 l0 x12_1).f0), .slice none 0 0]) ?_ 1 _ rfl; (with_reducible repeat (first | refine blk_drewN ?_ _ | refine blk_drew ?_ | refine blk_alloc ?_ _)); refine blk_put (cs := #[.string (⟨#[]⟩ : ByteArray), .slice none 0 0]) ?_ 0 _ rfl; (with_reducible repeat (first | refine blk_drewN ?_ _ | refine blk_drew ?_ | refine blk_alloc ?_ _)); exact BK151.out) hb); have n6_ := Aside0.mk (below_step (by repeat (first | (with_reducible first | exact HB.out | apply below_alloc | apply pw_below_drewN | apply below_drew1 | refine below_set ?_ GE151.out) | exact HB.out)) hb); clear HO_2; clear HO_3; clear HO_10; clear HL150_1; clear HR150_1; clear BK151; clear HB; have HO_2 := n0_; have HO_3 := n1_; have HO_10 := n2_; have HL150_1 := n3_; have HR150_1 := n4_; have BK151 := n5_; have HB := n6_; clear n0_ n1_ n2_ n3_ n4_ n5_ n6_; (try clear hb); (try clear hb2); (try clear hk); (try clear hi)))
                go_ret3
                exact ⟨_, _, by first | rfl | (simp [errW_none, errW_some] <;> rfl) | (simp [*, errW_none, errW_some] <;> rfl), by (with_reducible repeat (first | apply Kd.N_alloc | apply Kd.N_drewN | apply Kd.N_drew)); exact Kd.N_mono HO_2.out (fun _ hk => ⟨hk.1.1, hk.1.2⟩), by (with_reducible repeat (first | apply Kd.N_alloc | apply Kd.N_drewN | apply Kd.N_drew)); exact Kd.N_mono HO_3.out (fun _ hk => ⟨hk.1.1, hk.1.2⟩), by repeat (first | (with_reducible first | exact HB.out | apply below_alloc | apply pw_below_drewN | apply below_drew1 | refine below_set ?_ GE151.out) | exact HB.out)⟩
          · rw [if_neg c4] at H
            exact absurd H (by simp)
        · rw [if_neg c3] at H
          exact absurd H (by simp)
      · rw [if_neg c2] at H
        have c2b0 : decide (x12_1 < (l0.length : Int)) = false := decide_eq_false c2
        clear c2
        simp only [Option.some.injEq, Prod.mk.injEq] at H
        obtain ⟨rfl, rfl, rfl⟩ := H
        go_wp2
        go_ret3
        exact ⟨_, _, by first | rfl | (simp [errW_none, errW_some] <;> rfl) | (simp [*, errW_none, errW_some] <;> rfl), by (with_reducible repeat (first | apply Kd.N_alloc | apply Kd.N_drewN | apply Kd.N_drew)); exact HO_2.out, by (with_reducible repeat (first | apply Kd.N_alloc | apply Kd.N_drewN | apply Kd.N_drew)); exact HO_3.out, by repeat (first | (with_reducible first | exact HB.out | apply below_alloc | apply pw_below_drewN | apply below_drew1) | exact HB.out)⟩

/-! ### laws_attributes: function 9 -/
def laws_attributes.l0 : Nat → List (S47) → List (S34) → Int → Int → Option ((List (S47)))
  | 0, _, _, _, _ => none
  | k + 1, x3, x6, x7, x8 => if x8 < x7 then (if 0 ≤ x8 then (if x8 < (x6.length : Int) then (if x3.length < 3518437208883 then (laws_attributes.l0 k (x3 ++ [(⟨(rd_T34 x6 x8).f0, (rd_T34 x6 x8).f1⟩ : S47)]) x6 x7 (wrap64 (x8 + 1))) else (none)) else (none)) else (none)) else (some x3)
def laws_attributes.f (k : Nat) (l0 : List (S34)) : Option ((List (S47))) := laws_attributes.l0 k ([] : List (S47)) l0 (l0.length : Int) 0
theorem laws_attributes.mono_l : ∀ k, (∀ y0 y1 y2 y3, LeO (laws_attributes.l0 k y0 y1 y2 y3) (laws_attributes.l0 (k + 1) y0 y1 y2 y3))
  | 0 => fun _ _ _ _ r h => by simp [laws_attributes.l0] at h
  | k + 1 => by
    have ih0 := laws_attributes.mono_l k
    · intro y0 y1 y2 y3
      unfold laws_attributes.l0
      repeat' first
      | (with_reducible exact ih0 _ _ _ _)
      | (with_reducible exact LeO.refl _)
      | (with_reducible exact LeO.none _)
      | (with_reducible refine LeO.ite ?_ ?_)
      | (with_reducible refine LeO.bind ?_ (fun _ => ?_))
      | exact ih0 _ _ _ _
      | exact LeO.none _
      | refine LeO.ite ?_ ?_
      | refine LeO.bind ?_ (fun _ => ?_)
theorem laws_attributes.mono : ∀ a0 k, LeO (laws_attributes.f k a0) (laws_attributes.f (k + 1) a0) := by
  intro a0 k
  have ih0 := laws_attributes.mono_l k
  unfold laws_attributes.f
  repeat' first
      | (with_reducible exact ih0 _ _ _ _)
      | (with_reducible exact LeO.refl _)
      | (with_reducible exact LeO.none _)
      | (with_reducible refine LeO.ite ?_ ?_)
      | (with_reducible refine LeO.bind ?_ (fun _ => ?_))
      | exact ih0 _ _ _ _
      | exact LeO.none _
      | refine LeO.ite ?_ ?_
      | refine LeO.bind ?_ (fun _ => ?_)
set_option maxHeartbeats 8000000 in
set_option maxRecDepth 100000 in
theorem laws_attributes.calls (k : Nat) (P0_ : Nat → Prop) (A0 : Option Addr) (c0 : Nat) (l0 : List (S34)) (r : List (S47)) (w : World) (hs0 : Kd.V k34 34 w w.heap.size (fun k_ => P0_ k_) (.slice A0 l0.length c0) l0) (h : laws_attributes.f k l0 = some r) :
    Calls Tryd.prog 9 #[.slice A0 l0.length c0] w fun e w' => ∃ v0_ : Value, e = .returned (v0_) ∧ Kd.N k47 47 w' w.heap.size (fun k_ => (P0_ k_ ∨ w.heap.size ≤ k_)) v0_ r ∧ Below w.heap.size w w' := by
  have hu34 := Tryd.underlying34
  have hu47 := Tryd.underlying47
  have HO0 := Aside0.mk (show Kd.V k34 34 w w.heap.size (fun k_ => (P0_ k_ ∨ w.heap.size ≤ k_)) (.slice A0 l0.length c0) l0 from Kd.V_mono hs0 (fun k_ hk => .inl hk))
  have HB := Aside0.mk (Below.refl w.heap.size w)
  have H : (laws_attributes.l0 k ([] : List (S47)) l0 (l0.length : Int) 0) = some r := h
  clear h
  have H' := Aside0.mk H
  clear H
  go_enter Tryd.func9, Tryd.ntmps9
  go_wp2
  go_loopg [3, 8] k (fun kq v3 v8 w' => ∃ (x3_1 : List (S47)) (x8_1 : Int), v8 = .int .i64 x8_1 ∧ Aside0 (laws_attributes.l0 kq x3_1 l0 (l0.length : Int) x8_1 = some r) ∧ Aside0 (kq ≤ k) ∧ Aside0 (Kd.N k47 47 w' w.heap.size (fun k_ => (P0_ k_ ∨ w.heap.size ≤ k_)) v3 x3_1) ∧ Aside0 (Kd.V k34 34 w' w.heap.size (fun k_ => (P0_ k_ ∨ w.heap.size ≤ k_) ∧ some k_ ≠ (v3 : Value).ownBlock) (.slice A0 l0.length c0) l0) ∧ Aside0 (Below w.heap.size w w'))
  case atStart => exact ⟨(([] : List (S47))), (0), (by first | rfl | (simp; done) | (simp [*]; done)), H', ⟨Nat.le_refl _⟩, ⟨by first | exact Kd.S_nil _ _ _ _ _ | exact Kd.N_nil _ _ _ _ _ | exact Kd.V_nil _ _ _ _ _ | exact Kd.Q_nil _ _ _ _ _ | exact Kd.R_nil _ _ _ _ _⟩, ⟨by (with_reducible repeat (first | apply Kd.V_alloc | apply Kd.V_drewN | apply Kd.V_drew)); exact Kd.V_mono HO0.out (fun _ hk => ⟨hk, (by simp [Value.ownBlock])⟩)⟩, ⟨by repeat (first | (with_reducible first | exact HB.out | apply below_alloc | apply pw_below_drewN | apply below_drew1) | exact HB.out)⟩⟩
  case round =>
    clear H'
    obtain ⟨x3_1, x8_1, rfl, HA, HK1, HO_3, HO_6, HB⟩ := hrel
    cases gk with
    | zero => exact absurd HA.out (by simp [laws_attributes.l0])
    | succ k1 =>
      have H := HA.out
      clear HA
      simp only [laws_attributes.l0] at H
      by_cases c2 : x8_1 < (l0.length : Int)
      · rw [if_pos c2] at H
        have c2b0 : decide (x8_1 < (l0.length : Int)) = true := decide_eq_true c2
        clear c2
        by_cases c3 : 0 ≤ x8_1
        · rw [if_pos c3] at H
          have c3b0 : decide (0 ≤ x8_1) = true := decide_eq_true c3
          clear c3
          by_cases c4 : x8_1 < (l0.length : Int)
          · rw [if_pos c4] at H
            have c4b0 : decide (x8_1 < (l0.length : Int)) = true := decide_eq_true c4
            clear c4
            by_cases c5 : x3_1.length < 3518437208883
            · rw [if_pos c5] at H
              have LMc5 := Aside0.mk c5
              clear c5
              obtain ⟨y161, hy161⟩ : ∃ y_ : List (S47), y_ = (x3_1 ++ [(⟨(rd_T34 l0 x8_1).f0, (rd_T34 l0 x8_1).f1⟩ : S47)]) := ⟨_, rfl⟩
              replace H : (laws_attributes.l0 k1 y161 l0 (l0.length : Int) (wrap64 (x8_1 + 1))) = some r := by first | (rw [hy161]; with_reducible exact H) | (have H2_ := (Option.bind_some _ _).symm.trans H; rw [hy161]; with_reducible exact H2_) | (have H2_ := (Option.bind_some _ _).symm.trans H; with_reducible exact H2_) | with_reducible exact H | (rw [hy161]; exact H) | exact H
              have Ny161 := Aside0.mk hy161
              clear hy161
              have H' := Aside0.mk H
              clear H
              have p159 : 0 ≤ (x8_1 : Int) := of_decide_eq_true (by first | (with_reducible assumption) | assumption)
              have q159 : x8_1 < (l0.length : Int) := of_decide_eq_true (by first | (with_reducible assumption) | assumption)
              obtain ⟨ad159, A159_1, c159_1, e159, hx159_0, hx159_1, hl159_1, hi159_1⟩ := at_T34 (Kd.V_reads' HO_6.out).2.2 x8_1 p159 q159
              cases e159
              obtain ⟨ce159, hce159, hMe159, hcc159⟩ := Kd.V_get HO_6.out z34 x8_1 p159 (by first | exact q159 | exact of_decide_eq_true (by first | (with_reducible assumption) | assumption) | (have e_ := (Kd.V_reads' HO_6.out).1; omega))
              obtain ⟨ua159_1, uc159_1, rfl, ul159_1, ge159_1⟩ := k34_openF hMe159
              have hv159_1 := hcc159 1 _ rfl
              rw [add_field _ _ 1 (by omega)] at hv159_1
              replace hv159_1 := Option.some.inj (hv159_1.symm.trans hx159_1)
              injection hv159_1 with hva_ hvn_ hvc_
              rw [hva_] at ge159_1
              rw [hvc_] at ul159_1
              have HL159_1 := Aside0.mk (show Kd.V (Kd.int .u8) 5 _ w.heap.size _ _ ((rd_T34 l0 x8_1).f1) from Kd.V_mk ul159_1 ge159_1)
              clear hva_ hvn_ hvc_ ge159_1 ul159_1
              clear hcc159 hce159
              have HR159_1 := Aside0.mk hi159_1
              have HC159_1 := Aside0.mk hl159_1
              clear hi159_1 hl159_1
              replace p159 := eq_true p159
              replace q159 := eq_true q159
              go_wp2_with (first | ((with_reducible refine gate_dst (N := 5) rfl ?_); refine box_event ?hg (N := 5) ?hd (cs := #[.string (⟨#[]⟩ : ByteArray), .slice none 0 0]) (t := 34) ?hr ?_; (case hd => rfl); (case hg => rfl); (case hr => first | (go_simp; done) | (go_simp; rfl)); intro gb160 hg w6 hbox hb; have n0_ := Aside0.mk (Kd.N_below (Kd.N_elderB (by (with_reducible repeat (first | apply Kd.N_alloc | apply Kd.N_drewN | apply Kd.N_drew)); exact HO_3.out) gb160 (Nat.le_of_eq hg.symm)) hb); have n1_ := Aside0.mk (Kd.V_below (Kd.V_elderB (by (with_reducible repeat (first | apply Kd.V_alloc | apply Kd.V_drewN | apply Kd.V_drew)); exact HO_6.out) gb160 (Nat.le_of_eq hg.symm)) hb); have n2_ := Aside0.mk (Kd.V_below (Kd.V_elderB (by (with_reducible repeat (first | apply Kd.V_alloc | apply Kd.V_drewN | apply Kd.V_drew)); exact HL159_1.out) gb160 (Nat.le_of_eq hg.symm)) hb); have n3_ := Aside0.mk (Kd.C_below (by repeat (first | (with_reducible exact HR159_1.out) | (with_reducible refine Kd.C_alloc ?_ _) | (with_reducible refine Kd.C_drewN ?_ _) | (with_reducible refine Kd.C_drew ?_) | exact HR159_1.out)) hb); have n4_ := Aside0.mk (below_step (by repeat (first | (with_reducible first | exact HB.out | apply below_alloc | apply pw_below_drewN | apply below_drew1) | exact HB.out)) hb); have n5_ := Aside0.mk (hbox); have n6_ := Aside0.mk ((by rw [hg]; exact (below_size (by repeat (first | (with_reducible first | exact HB.out | apply below_alloc | apply pw_below_drewN | apply below_drew1) | exact HB.out))) : w.heap.size ≤ gb160)); have n7_ := Aside0.mk ((by rw [hg]; exact (below_size (by repeat (first | (with_reducible first | exact HB.out | apply below_alloc | apply pw_below_drewN | apply below_drew1) | exact HB.out))) : w.heap.size ≤ gb160)); clear HO_3; clear HO_6; clear HL159_1; clear HR159_1; clear HB; have HO_3 := n0_; have HO_6 := n1_; have HL159_1 := n2_; have HR159_1 := n3_; have HB := n4_; have BK160 := n5_; have GW160 := n6_; have GE160 := n7_; clear n0_ n1_ n2_ n3_ n4_ n5_ n6_ n7_; clear hb hbox hg; have hcz7_0 : w6.cell? ⟨gb160, 0, none⟩ = some (.string (⟨#[]⟩ : ByteArray)) := (blk_cell BK160.out 0).trans rfl; have hcz7_1 : w6.cell? ⟨gb160, 1, none⟩ = some (.slice none 0 0) := (blk_cell BK160.out 1).trans rfl; have hfz7_0 := blk_frozen BK160.out 0; have hfz7_1 := blk_frozen BK160.out 1) | ((with_reducible refine gate_store (t := 34) (p := 5) rfl ?_); refine store_event (t := 34) (p := 5) (v := ?vo_w8) (w1 := ((w6.setCell ⟨gb160, 0, none⟩ (.string ((rd_T34 l0 x8_1).f0))).setCell ⟨gb160, 1, none⟩ (.slice A159_1 ((rd_T34 l0 x8_1).f1).length c159_1))) ?hg ?ho ?hn ?hr ?_; (case ho => rfl); (case hg => rfl); (case hn => rfl); (case hr => first | (go_simp; done) | (go_simp; rfl)); intro w8 hw; have n0_ : Aside0 (Kd.N k47 47 w8 w.heap.size (fun k_ => (P0_ k_ ∨ w.heap.size ≤ k_) ∧ k_ ≠ gb160) u3 x3_1) := ⟨(by rw [hw]; exact (by (with_reducible repeat (first | apply Kd.N_alloc | apply Kd.N_drewN | apply Kd.N_drew)); exact Kd.N_mono (Kd.N_far (p := ⟨gb160, 1, none⟩) (Kd.N_far (p := ⟨gb160, 0, none⟩) (Kd.N_mono HO_3.out (fun k_ hk => (⟨hk, hk.2⟩ : _ ∧ k_ ≠ gb160))) (fun _ hk => hk.2) (.string ((rd_T34 l0 x8_1).f0))) (fun _ hk => hk.2) (.slice A159_1 ((rd_T34 l0 x8_1).f1).length c159_1)) (fun _ hk => ⟨hk.1.1, hk.1.2⟩)))⟩; have n1_ : Aside0 (Kd.V k34 34 w8 w.heap.size (fun k_ => (P0_ k_ ∨ w.heap.size ≤ k_) ∧ some k_ ≠ (u3 : Value).ownBlock ∧ k_ ≠ gb160) (.slice (some ad159) l0.length c0) l0) := ⟨(by rw [hw]; exact (by (with_reducible repeat (first | apply Kd.V_alloc | apply Kd.V_drewN | apply Kd.V_drew)); exact Kd.V_mono (Kd.V_far (p := ⟨gb160, 1, none⟩) (Kd.V_far (p := ⟨gb160, 0, none⟩) (Kd.V_mono HO_6.out (fun k_ hk => (⟨hk, hk.2⟩ : _ ∧ k_ ≠ gb160))) (fun _ hk => hk.2) (.string ((rd_T34 l0 x8_1).f0))) (fun _ hk => hk.2) (.slice A159_1 ((rd_T34 l0 x8_1).f1).length c159_1)) (fun _ hk => ⟨hk.1.1.1, ⟨hk.1.1.2, hk.1.2⟩⟩)))⟩; have n2_ : Aside0 (Kd.V (Kd.int .u8) 5 w8 w.heap.size (fun k_ => (P0_ k_ ∨ w.heap.size ≤ k_) ∧ some k_ ≠ (u3 : Value).ownBlock ∧ k_ ≠ gb160) (.slice A159_1 ((rd_T34 l0 x8_1).f1).length c159_1) ((rd_T34 l0 x8_1).f1)) := ⟨(by rw [hw]; exact (by (with_reducible repeat (first | apply Kd.V_alloc | apply Kd.V_drewN | apply Kd.V_drew)); exact Kd.V_mono (Kd.V_far (p := ⟨gb160, 1, none⟩) (Kd.V_far (p := ⟨gb160, 0, none⟩) (Kd.V_mono HL159_1.out (fun k_ hk => (⟨hk, hk.2⟩ : _ ∧ k_ ≠ gb160))) (fun _ hk => hk.2) (.string ((rd_T34 l0 x8_1).f0))) (fun _ hk => hk.2) (.slice A159_1 ((rd_T34 l0 x8_1).f1).length c159_1)) (fun _ hk => ⟨hk.1.1.1, ⟨hk.1.1.2, hk.1.2⟩⟩)))⟩; have n3_ : Aside0 (w8.heap[gb160]? = some (.cells #[.string ((rd_T34 l0 x8_1).f0), .slice A159_1 ((rd_T34 l0 x8_1).f1).length c159_1] 34 (0, 0))) := ⟨(by rw [hw]; exact (by (with_reducible repeat (first | refine blk_drewN ?_ _ | refine blk_drew ?_ | refine blk_alloc ?_ _)); refine blk_put (cs := #[.string ((rd_T34 l0 x8_1).f0), .slice none 0 0]) ?_ 1 _ rfl; (with_reducible repeat (first | refine blk_drewN ?_ _ | refine blk_drew ?_ | refine blk_alloc ?_ _)); refine blk_put (cs := #[.string (⟨#[]⟩ : ByteArray), .slice none 0 0]) ?_ 0 _ rfl; (with_reducible repeat (first | refine blk_drewN ?_ _ | refine blk_drew ?_ | refine blk_alloc ?_ _)); exact BK160.out))⟩; have n4_ : Aside0 (Below w.heap.size w w8) := ⟨(by rw [hw]; exact (by repeat (first | (with_reducible first | exact HB.out | apply below_alloc | apply pw_below_drewN | apply below_drew1 | refine below_set ?_ GE160.out) | exact HB.out)))⟩; clear hw; clear HO_3; clear HO_6; clear HL159_1; clear BK160; clear HB; have HO_3 := n0_; have HO_6 := n1_; have HL159_1 := n2_; have BK160 := n3_; have HB := n4_; clear n0_ n1_ n2_ n3_ n4_; have hcz9_0 : w8.cell? ⟨gb160, 0, none⟩ = some (.string ((rd_T34 l0 x8_1).f0)) := (blk_cell BK160.out 0).trans rfl; have hcz9_1 : w8.cell? ⟨gb160, 1, none⟩ = some (.slice A159_1 ((rd_T34 l0 x8_1).f1).length c159_1) := (blk_cell BK160.out 1).trans rfl; have hfz9_0 := blk_frozen BK160.out 0; have hfz9_1 := blk_frozen BK160.out 1) | ((with_reducible refine gate_builtin (b := .append) (xs := #[.tmp 12, .tmp 18]) rfl ?_); at_builtin; refine Kd.N_append k47 (w0 := w) w.heap.size rfl (.tmp 12) (.tmp 18) 27 47 (.agg #[(.string ⟨#[]⟩), (.slice none 0 0)]) 40 rfl Tryd.underlying27 info47 rfl (by decide) (by omega) u3 x3_1 (⟨(rd_T34 l0 x8_1).f0, (rd_T34 l0 x8_1).f1⟩ : S47) [.string ((rd_T34 l0 x8_1).f0), .slice A159_1 ((rd_T34 l0 x8_1).f1).length c159_1] (fun k_ => (P0_ k_ ∨ w.heap.size ≤ k_) ∧ k_ ≠ gb160) (fun k_ => ((fun k_ => (P0_ k_ ∨ w.heap.size ≤ k_) ∧ k_ ≠ gb160)) k_ ∧ some k_ ≠ (u3 : Value).ownBlock) rfl rfl ?aP (fun _ hk => hk) ?aF ?aO ?aB ?aS ?aL ?_; (case aP => exact (k47_mkF _ _ (⟨(rd_T34 l0 x8_1).f0, (rd_T34 l0 x8_1).f1⟩ : S47) (Kd.V_reads' (Kd.V_mono (ok' := (fun k_ => ((fun k_ => (P0_ k_ ∨ w.heap.size ≤ k_) ∧ k_ ≠ gb160)) k_ ∧ some k_ ≠ (u3 : Value).ownBlock)) (HL159_1.out) (fun k_ hk => ⟨⟨hk.1, hk.2.2⟩, hk.2.1⟩))).2.1 (Kd.V_F (Kd.V_mono (ok' := (fun k_ => ((fun k_ => (P0_ k_ ∨ w.heap.size ≤ k_) ∧ k_ ≠ gb160)) k_ ∧ some k_ ≠ (u3 : Value).ownBlock)) (HL159_1.out) (fun k_ hk => ⟨⟨hk.1, hk.2.2⟩, hk.2.1⟩))))); (case aB => exact (by repeat (first | (with_reducible first | exact HB.out | apply below_alloc | apply pw_below_drewN | apply below_drew1 | refine below_set ?_ GE160.out) | exact HB.out))); (case aF => exact (fun k_ hk => ⟨(.inr (Nat.le_trans (below_size (by repeat (first | (with_reducible first | exact HB.out | apply below_alloc | apply pw_below_drewN | apply below_drew1 | refine below_set ?_ GE160.out) | exact HB.out))) hk)), Kd.freshB (g := gb160) (o := .cells #[.string ((rd_T34 l0 x8_1).f0), .slice A159_1 ((rd_T34 l0 x8_1).f1).length c159_1] 34 (0, 0)) (by (with_reducible repeat (first | refine blk_drewN ?_ _ | refine blk_drew ?_ | refine blk_alloc ?_ _)); exact BK160.out) k_ hk⟩)); (case aO => exact (by (with_reducible repeat (first | apply Kd.N_alloc | apply Kd.N_drewN | apply Kd.N_drew)); exact HO_3.out)); (case aS => exact (below_size (by repeat (first | (with_reducible first | exact HB.out | apply below_alloc | apply pw_below_drewN | apply below_drew1 | refine below_set ?_ GE160.out) | exact HB.out)))); (case aL => have := LMc5.out; omega); intro v162 w10 ho hb hg hat; rw [← Ny161.out] at ho; have n0_ := Aside0.mk (Kd.V_afterv (ok := (fun k_ => (P0_ k_ ∨ w.heap.size ≤ k_) ∧ k_ ≠ gb160)) (by (with_reducible repeat (first | apply Kd.V_alloc | apply Kd.V_drewN | apply Kd.V_drew)); exact Kd.V_mono HO_6.out (fun _ hk => ⟨⟨hk.1, hk.2.2⟩, hk.2.1⟩)) hg hat); have n1_ := Aside0.mk (Kd.V_afterv (ok := (fun k_ => (P0_ k_ ∨ w.heap.size ≤ k_) ∧ k_ ≠ gb160)) (by (with_reducible repeat (first | apply Kd.V_alloc | apply Kd.V_drewN | apply Kd.V_drew)); exact Kd.V_mono HL159_1.out (fun _ hk => ⟨⟨hk.1, hk.2.2⟩, hk.2.1⟩)) hg hat); have n2_ := Aside0.mk (blk_grown (g := gb160) (o := .cells #[.string ((rd_T34 l0 x8_1).f0), .slice A159_1 ((rd_T34 l0 x8_1).f1).length c159_1] 34 (0, 0)) (by (with_reducible repeat (first | refine blk_drewN ?_ _ | refine blk_drew ?_ | refine blk_alloc ?_ _)); exact BK160.out) hg (Kd.N_ne HO_3.out BK160.out (by decide))); have n3_ := Aside0.mk (hb); have n4_ := Aside0.mk (ho); clear HO_6; clear HL159_1; clear BK160; clear HB; clear HO_3; have HO_6 := n0_; have HL159_1 := n1_; have BK160 := n2_; have HB := n3_; have HO163 := n4_; clear n0_ n1_ n2_ n3_ n4_; clear ho hb hg hat))
              go_roundg k1
              case measure => have := HK1.out; omega
              case rel => exact ⟨(y161), (wrap64 (x8_1 + 1)), (by first | rfl | (simp; done) | (simp [*]; done)), H', ⟨by have := HK1.out; omega⟩, ⟨by (with_reducible repeat (first | apply Kd.N_alloc | apply Kd.N_drewN | apply Kd.N_drew)); exact Kd.N_mono HO163.out (fun _ hk => hk.1)⟩, ⟨by (with_reducible repeat (first | apply Kd.V_alloc | apply Kd.V_drewN | apply Kd.V_drew)); exact Kd.V_mono HO_6.out (fun _ hk => ⟨hk.1.1, hk.2⟩)⟩, ⟨by repeat (first | (with_reducible first | exact HB.out | apply below_alloc | apply pw_below_drewN | apply below_drew1 | refine below_set ?_ GE160.out) | exact HB.out)⟩⟩
            · rw [if_neg c5] at H
              exact absurd H (by simp)
          · rw [if_neg c4] at H
            exact absurd H (by simp)
        · rw [if_neg c3] at H
          exact absurd H (by simp)
      · rw [if_neg c2] at H
        have c2b0 : decide (x8_1 < (l0.length : Int)) = false := decide_eq_false c2
        clear c2
        obtain rfl := Option.some.inj H
        go_wp2
        go_ret
        exact ⟨_, by first | rfl | (simp [errW_none, errW_some] <;> rfl) | (simp [*, errW_none, errW_some] <;> rfl), by (with_reducible repeat (first | apply Kd.N_alloc | apply Kd.N_drewN | apply Kd.N_drew)); exact HO_3.out, by repeat (first | (with_reducible first | exact HB.out | apply below_alloc | apply pw_below_drewN | apply below_drew1) | exact HB.out)⟩

end Go.Proofs.YtjpahogldfmaeabDoor.PFnAttributesFit
