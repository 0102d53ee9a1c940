/- Parts of the proof, merged: PFnUnionReadOnlyx2, Sa. -/
import Derived.ChangeAlike
import Derived.ProofKit
import Derived.RegionTactic
import Derived.WalkKit
import Derived.WalkLawsBesides
import Derived.WalkSpells
import Derived.Test.YtnkhfdnahnphdaaDoorZc03
import Derived.Test.YtnkhfdnahnphdaaDoorZc04
import Derived.Test.YtnkhfdnahnphdaaDoorZc07
import Derived.Test.YtnkhfdnahnphdaaDoorZc11
section
namespace Go.Proofs.YtnkhfdnahnphdaaDoor.PFnUnionReadOnly
open Go.RowKit Go.Proofs.YtnkhfdnahnphdaaDoorW.PrintWords Go.Proofs.YtnkhfdnahnphdaaDoorW.PrintLast Go.Proofs.YtnkhfdnahnphdaaDoorW.PrintMore
attribute [local go_sem] max2_int min2_int max_two min_two max_three min_three max_four min_four   -- for this text's walks alone
set_option linter.unusedVariables false
set_option linter.unusedSimpArgs false
def spec_readFrom.j0 : Nat → List Int → Int → Int → Bool → Option (List Int × Int)
  | 0, _, _, _, _ => none
  | k + 1, x0, x1, x2, x13 => if x13 = true then (some (([] : List Int), 4)) else (if x1 > (x0.length : Int) then (some (([] : List Int), 5)) else ((some (([] : List Int) : List Int)).bind fun y120 => (if 0 ≤ x1 then (if x1 ≤ (mn (x0.length : Int) (wrap64 (x1 + x2))) then (if (mn (x0.length : Int) (wrap64 (x1 + x2))) ≤ (x0.length : Int) then (if y120.length + ((x0.take ((mn (x0.length : Int) (wrap64 (x1 + x2))) : Int).toNat).drop (x1 : Int).toNat).length < 140737488355328 then (some ((y120 ++ ((x0.take ((mn (x0.length : Int) (wrap64 (x1 + x2))) : Int).toNat).drop (x1 : Int).toNat)), 0)) else (none)) else (none)) else (none)) else (none))))
def spec_readFrom.f (k : Nat) (l0 : List Int) (a1 : Int) (a2 : Int) : Option (List Int × Int) := if a1 < 0 then (some (([] : List Int), 13)) else (if (mx a2 0) > 0 then (spec_readFrom.j0 k l0 a1 (mx a2 0) (a1 == (l0.length : Int))) else (spec_readFrom.j0 k l0 a1 (mx a2 0) false))
theorem spec_readFrom.mono_l : ∀ k, (∀ y0 y1 y2 y3, LeO (spec_readFrom.j0 k y0 y1 y2 y3) (spec_readFrom.j0 (k + 1) y0 y1 y2 y3))
  | 0 => fun _ _ _ _ r h => by simp [spec_readFrom.j0] at h
  | k + 1 => by
    have ih0 := spec_readFrom.mono_l k
    · intro y0 y1 y2 y3
      unfold spec_readFrom.j0
      repeat' first
      | (with_reducible exact ih0 _ _ _ _)
      | (with_reducible exact LeO.refl _)
      | (with_reducible exact LeO.none _)
      | (with_reducible refine LeO.ite ?_ ?_)
      | (with_reducible refine LeO.bind ?_ (fun _ => ?_))
      | exact ih0 _ _ _ _
      | exact LeO.none _
      | refine LeO.ite ?_ ?_
      | refine LeO.bind ?_ (fun _ => ?_)
theorem spec_readFrom.mono : ∀ a0 a1 a2 k, LeO (spec_readFrom.f k a0 a1 a2) (spec_readFrom.f (k + 1) a0 a1 a2) := by
  intro a0 a1 a2 k
  have ih0 := spec_readFrom.mono_l k
  unfold spec_readFrom.f
  repeat' first
      | (with_reducible exact ih0 _ _ _ _)
      | (with_reducible exact LeO.refl _)
      | (with_reducible exact LeO.none _)
      | (with_reducible refine LeO.ite ?_ ?_)
      | (with_reducible refine LeO.bind ?_ (fun _ => ?_))
      | exact ih0 _ _ _ _
      | exact LeO.none _
      | refine LeO.ite ?_ ?_
      | refine LeO.bind ?_ (fun _ => ?_)
set_option maxHeartbeats 8000000 in
set_option maxRecDepth 100000 in
theorem spec_readFrom.calls (k : Nat) (A0 : Option Addr) (c0 : Nat) (l0 : List Int) (a1 : Int) (a2 : Int) (r1 : List Int) (r2 : Int) (w : World) (hr0 : Kd.C (Kd.int .u8) w A0 l0.length l0) (hc0 : l0.length ≤ c0) (h : spec_readFrom.f k l0 a1 a2 = some (r1, r2)) :
    Calls Tryd.prog 101 #[.slice A0 l0.length c0, .int .i64 a1, .int .i64 a2] w fun e w' => ∃ v0_ : Value, e = .returned (.tuple #[v0_, .int .i64 r2]) ∧ Kd.R (Kd.int .u8) 5 w' w.heap.size (fun _ => True) v0_ r1 ∧ Below w.heap.size w w' := by
  have HR0 := Aside0.mk hr0
  have HC0 := Aside0.mk hc0
  clear hr0 hc0
  have HB := Aside0.mk (Below.refl w.heap.size w)
  have H : (if a1 < 0 then (some (([] : List Int), 13)) else (if (mx a2 0) > 0 then (spec_readFrom.j0 k l0 a1 (mx a2 0) (a1 == (l0.length : Int))) else (spec_readFrom.j0 k l0 a1 (mx a2 0) false))) = some (r1, r2) := h
  clear h
  obtain ⟨ji4, hji4⟩ : ∃ j_ : Int, (mx a2 0) = j_ := ⟨_, rfl⟩
  replace H : (if a1 < 0 then (some (([] : List Int), 13)) else (if (ji4) > 0 then (spec_readFrom.j0 k l0 a1 ji4 (a1 == (l0.length : Int))) else (spec_readFrom.j0 k l0 a1 ji4 false))) = some (r1, r2) := by first | (rw [hji4] at H; exact H) | (simp only [hji4] at H ⊢; exact H)
  (try (have hji4l : 0 ≤ ji4 := by (rw [← hji4]; unfold mx; (repeat' split) <;> omega)))
  (try (have hji4m : 0 ≤ ji4 := by omega))
  have hji4_ : (if a2 < 0 then 0 else a2) = ji4 := hji4
  by_cases c5 : a1 < 0
  · rw [if_pos c5] at H
    have c5b0 : decide (a1 < 0) = true := decide_eq_true c5
    clear c5
    simp only [Option.some.injEq, Prod.mk.injEq] at H
    obtain ⟨rfl, rfl⟩ := H
    go_enter Tryd.func101, Tryd.ntmps101
    go_wp2
    go_ret2
    exact ⟨_, by first | rfl | (simp [errW_none, errW_some] <;> rfl) | (simp only [← hji4]; first | rfl | (simp [errW_none, errW_some] <;> rfl)) | (simp [*, errW_none, errW_some] <;> rfl), by first | exact Kd.R_nil _ _ _ _ _ | exact Kd.N_nil _ _ _ _ _ | exact Kd.V_nil _ _ _ _ _ | exact Kd.Q_nil _ _ _ _ _ | exact Kd.S_nil _ _ _ _ _, by repeat (first | (with_reducible first | exact HB.out | apply below_alloc | apply pw_below_drewN | apply below_drew1) | exact HB.out)⟩
  · rw [if_neg c5] at H
    have c5b0 : decide (a1 < 0) = false := decide_eq_false c5
    clear c5
    have HC6 := Aside0.mk H
    clear H
    go_enter Tryd.func101, Tryd.ntmps101
    go_upto_region 4 with (fail)
    go_cut [13] (fun v13 wc => ∃ (kq : Nat) (x13_5 : Bool), v13 = .bool x13_5 ∧ Aside0 (spec_readFrom.j0 kq l0 a1 ji4 x13_5 = some (r1, r2)) ∧ Aside0 (kq ≤ k) ∧ Aside0 (Below w.heap.size w wc))
    case first =>
      have H := HC6.out
      clear HC6
      by_cases c7 : (ji4) > 0
      · rw [if_pos c7] at H
        have c7b0 : decide (0 < (ji4)) = true := decide_eq_true c7
        clear c7
        (first | rw [c7b0] | (simp only [i64_w, i32_w]; rw [c7b0]) | skip)
        have H' := Aside0.mk H
        clear H
        go_wp2
        go_meet
        case rel => exact ⟨_, ((a1 == (l0.length : Int))), (by first | rfl | (simp; done) | (simp [*]; done)), H', ⟨by first | omega | exact Nat.le_refl _⟩, ⟨by repeat (first | (with_reducible first | exact HB.out | apply below_alloc | apply pw_below_drewN | apply below_drew1) | exact HB.out)⟩⟩
      · rw [if_neg c7] at H
        have c7b0 : decide (0 < (ji4)) = false := decide_eq_false c7
        clear c7
        (first | rw [c7b0] | (simp only [i64_w, i32_w]; rw [c7b0]) | skip)
        have H' := Aside0.mk H
        clear H
        go_wp2
        go_meet
        case rel => exact ⟨_, (false), (by first | rfl | (simp; done) | (simp [*]; done)), H', ⟨by first | omega | exact Nat.le_refl _⟩, ⟨by repeat (first | (with_reducible first | exact HB.out | apply below_alloc | apply pw_below_drewN | apply below_drew1) | exact HB.out)⟩⟩
    case rest =>
      clear HC6
      try clear c1
      try clear p2
      try clear c5
      try clear c5b0
      try clear c7
      try clear c7b0
      obtain ⟨kq, x13_5, rfl, HA, HJ5, HB⟩ := hcut
      cases kq with
      | zero => exact absurd HA.out (by simp [spec_readFrom.j0])
      | succ kj5 =>
        have H := HA.out
        clear HA
        simp only [spec_readFrom.j0] at H
        by_cases c8 : x13_5 = true
        · subst c8
          have H1 : (some (([] : List Int), 4)) = some (r1, r2) := by rw [if_pos rfl] at H; exact H
          clear H
          have H := H1
          clear H1
          simp only [Option.some.injEq, Prod.mk.injEq] at H
          obtain ⟨rfl, rfl⟩ := H
          go_wp2
          go_ret2
          exact ⟨_, by first | rfl | (simp [errW_none, errW_some] <;> rfl) | (simp only [← hji4]; first | rfl | (simp [errW_none, errW_some] <;> rfl)) | (simp [*, errW_none, errW_some] <;> rfl), by first | exact Kd.R_nil _ _ _ _ _ | exact Kd.N_nil _ _ _ _ _ | exact Kd.V_nil _ _ _ _ _ | exact Kd.Q_nil _ _ _ _ _ | exact Kd.S_nil _ _ _ _ _, by repeat (first | (with_reducible first | exact HB.out | apply below_alloc | apply pw_below_drewN | apply below_drew1) | exact HB.out)⟩
        · replace c8 := Bool.eq_false_iff.mpr c8
          subst c8
          have H1 : (if a1 > (l0.length : Int) then (some (([] : List Int), 5)) else ((some (([] : List Int) : List Int)).bind fun y120 => (if 0 ≤ a1 then (if a1 ≤ (mn (l0.length : Int) (wrap64 (a1 + ji4))) then (if (mn (l0.length : Int) (wrap64 (a1 + ji4))) ≤ (l0.length : Int) then (if y120.length + ((l0.take ((mn (l0.length : Int) (wrap64 (a1 + ji4))) : Int).toNat).drop (a1 : Int).toNat).length < 140737488355328 then (some ((y120 ++ ((l0.take ((mn (l0.length : Int) (wrap64 (a1 + ji4))) : Int).toNat).drop (a1 : Int).toNat)), 0)) else (none)) else (none)) else (none)) else (none)))) = some (r1, r2) := by rw [if_neg (show ¬ (false = true) by decide)] at H; exact H
          clear H
          have H := H1
          clear H1
          by_cases c9 : a1 > (l0.length : Int)
          · rw [if_pos c9] at H
            have c9b0 : decide ((l0.length : Int) < a1) = true := decide_eq_true c9
            clear c9
            simp only [Option.some.injEq, Prod.mk.injEq] at H
            obtain ⟨rfl, rfl⟩ := H
            go_wp2
            go_ret2
            exact ⟨_, by first | rfl | (simp [errW_none, errW_some] <;> rfl) | (simp only [← hji4]; first | rfl | (simp [errW_none, errW_some] <;> rfl)) | (simp [*, errW_none, errW_some] <;> rfl), by first | exact Kd.R_nil _ _ _ _ _ | exact Kd.N_nil _ _ _ _ _ | exact Kd.V_nil _ _ _ _ _ | exact Kd.Q_nil _ _ _ _ _ | exact Kd.S_nil _ _ _ _ _, by repeat (first | (with_reducible first | exact HB.out | apply below_alloc | apply pw_below_drewN | apply below_drew1) | exact HB.out)⟩
          · rw [if_neg c9] at H
            have c9b0 : decide ((l0.length : Int) < a1) = false := decide_eq_false c9
            clear c9
            obtain ⟨y120, hy120⟩ : ∃ y_ : List Int, y_ = (([] : List Int)) := ⟨_, rfl⟩
            replace H : (if 0 ≤ a1 then (if a1 ≤ (mn (l0.length : Int) (wrap64 (a1 + ji4))) then (if (mn (l0.length : Int) (wrap64 (a1 + ji4))) ≤ (l0.length : Int) then (if y120.length + ((l0.take ((mn (l0.length : Int) (wrap64 (a1 + ji4))) : Int).toNat).drop (a1 : Int).toNat).length < 140737488355328 then (some ((y120 ++ ((l0.take ((mn (l0.length : Int) (wrap64 (a1 + ji4))) : Int).toNat).drop (a1 : Int).toNat)), 0)) else (none)) else (none)) else (none)) else (none)) = some (r1, r2) := by first | (rw [hy120]; with_reducible exact H) | (have H2_ := (Option.bind_some _ _).symm.trans H; rw [hy120]; with_reducible exact H2_) | (have H2_ := (Option.bind_some _ _).symm.trans H; with_reducible exact H2_) | with_reducible exact H | (rw [hy120]; exact H) | exact H
            have Ny120 := Aside0.mk hy120
            clear hy120
            obtain ⟨ji10, hji10⟩ : ∃ j_ : Int, (mn (l0.length : Int) (wrap64 (a1 + ji4))) = j_ := ⟨_, rfl⟩
            replace H : (if 0 ≤ a1 then (if a1 ≤ (ji10) then (if (ji10) ≤ (l0.length : Int) then (if y120.length + ((l0.take ((ji10) : Int).toNat).drop (a1 : Int).toNat).length < 140737488355328 then (some ((y120 ++ ((l0.take ((ji10) : Int).toNat).drop (a1 : Int).toNat)), 0)) else (none)) else (none)) else (none)) else (none)) = some (r1, r2) := by first | (rw [hji10] at H; exact H) | (simp only [hji10] at H ⊢; exact H)
            have hji10_ : (if (wrap64 (a1 + ji4)) < (l0.length : Int) then (wrap64 (a1 + ji4)) else (l0.length : Int)) = ji10 := hji10
            by_cases c11 : 0 ≤ a1
            · rw [if_pos c11] at H
              have c11b0 := eq_true c11
              have c11b1 : decide (0 ≤ a1) = true := decide_eq_true c11
              clear c11
              by_cases c12 : a1 ≤ (ji10)
              · rw [if_pos c12] at H
                have c12b0 := eq_true c12
                have c12b1 : decide (a1 ≤ (ji10)) = true := decide_eq_true c12
                clear c12
                by_cases c13 : (ji10) ≤ (l0.length : Int)
                · rw [if_pos c13] at H
                  have c13b0 := eq_true c13
                  have c13b1 : decide ((ji10) ≤ (l0.length : Int)) = true := decide_eq_true c13
                  clear c13
                  by_cases c14 : y120.length + ((l0.take ((ji10) : Int).toNat).drop (a1 : Int).toNat).length < 140737488355328
                  · rw [if_pos c14] at H
                    have LMc14 := Aside0.mk c14
                    clear c14
                    obtain ⟨y124, hy124⟩ : ∃ y_ : List Int, y_ = (y120 ++ ((l0.take ((ji10) : Int).toNat).drop (a1 : Int).toNat)) := ⟨_, rfl⟩
                    replace H : (some (y124, 0)) = some (r1, r2) := by first | (rw [hy124]; with_reducible exact H) | (have H2_ := (Option.bind_some _ _).symm.trans H; rw [hy124]; with_reducible exact H2_) | (have H2_ := (Option.bind_some _ _).symm.trans H; with_reducible exact H2_) | with_reducible exact H | (rw [hy124]; exact H) | exact H
                    have Ny124 := Aside0.mk hy124
                    clear hy124
                    simp only [Option.some.injEq, Prod.mk.injEq] at H
                    obtain ⟨rfl, rfl⟩ := H
                    go_wp2_with (first | ((with_reducible refine gate_dst (N := 27) rfl ?_); (try (refine gate_guard (by rfl) ?_; dsimp only)); refine Kd.R_lit (Kd.int .u8) _ 5 ?hg (N := 27) ?hd (xs := ([] : List Int)) (inner := []) (ok := fun _ => True) (okp := fun _ => True) ?hr ?hp (fun _ hk => hk) trivial (Below.refl _ _) (Nat.le_refl _) (by simp) ?_; (case hd => rfl); (case hg => rfl); (case hr => first | (go_simp; done) | (go_simp; rfl)); (case hp => exact (Reps.none _ _)); intro v121 w15 ho16 hb hg_ hnew_; clear hg_ hnew_; (first | rw [← Ny120.out] at ho16 | (simp only [Int.reduceToNat] at ho16; rw [← Ny120.out] at ho16)); have n0_ := Aside0.mk (Kd.R_lower ho16 (below_size (by repeat (first | (with_reducible first | exact HB.out | apply below_alloc | apply pw_below_drewN | apply below_drew1) | exact HB.out)))); have n1_ := Aside0.mk (below_step (by repeat (first | (with_reducible first | exact HB.out | apply below_alloc | apply pw_below_drewN | apply below_drew1) | exact HB.out)) hb); clear HB; have HO122 := n0_; have HB := n1_; clear n0_ n1_; clear hb ho16; obtain ⟨i017, hi017, _, hsz17, _⟩ := info_parts info5; obtain ⟨A17, hcut17, hA17, hC17⟩ := print_mid_of (P := Tryd.prog) (Value.int .u8) 0 22 5 .i64 .i64 Tryd.underlying22 hi017 hsz17 A0 c0 l0 a1 (ji10) (of_decide_eq_true (by first | (with_reducible assumption) | assumption)) (by first | omega | exact of_decide_eq_true (by first | (with_reducible assumption) | assumption)) (of_decide_eq_true (by first | (with_reducible assumption) | assumption)) HC0.out; have HR123 := Aside0.mk (Kd.C_of_reads (h1 := fun _ => rfl) (hA17 _ (Kd.reads_of_C HR0.out))); have HC123 := Aside0.mk hC17; clear hA17 hC17 hi017 hsz17) | ((with_reducible refine gate_builtin (b := .append) (xs := #[.tmp 27, .tmp 36]) rfl ?_); (try (refine gate_guard (by rfl) ?_; dsimp only)); at_builtin; refine Kd.R_append_rows (Kd.int .u8) (w0 := w) w.heap.size rfl (.tmp 27) (.tmp 36) 22 5 (.int .u8 0) 1 rfl Tryd.underlying22 info5 rfl (by decide) (by omega) v121 y120 ((l0.take ((ji10) : Int).toNat).drop (a1 : Int).toNat) _ _ _ (fun _ => True) (fun _ => False) rfl rfl ?aO ?aR (fun _ _ h => h) (fun _ h => h.elim) ?aF ?aB ?aS ?aL ?_; (case aR => first | (rw [← show ((l0.take ((ji10) : Int).toNat).drop (a1 : Int).toNat).length = ((ji10).toNat - a1.toNat) from (by rw [List.length_drop, List.length_take]; have h_ : ((ji10) : Int) ≤ (l0.length : Int) := of_decide_eq_true (by first | (with_reducible assumption) | assumption); omega)]; repeat (first | exact (Kd.C_below HR123.out HB.out) | (with_reducible refine Kd.C_alloc ?_ _) | (with_reducible refine Kd.C_drewN ?_ _) | (with_reducible refine Kd.C_drew ?_))) | (repeat (first | exact (Kd.C_below HR123.out HB.out) | (with_reducible refine Kd.C_alloc ?_ _) | (with_reducible refine Kd.C_drewN ?_ _) | (with_reducible refine Kd.C_drew ?_)))); (case aB => exact (by repeat (first | (with_reducible first | exact HB.out | apply below_alloc | apply pw_below_drewN | apply below_drew1) | exact HB.out))); (case aF => exact (fun _ _ => trivial)); (case aO => exact (by (with_reducible repeat (first | apply Kd.R_alloc | apply Kd.R_drewN | apply Kd.R_drew)); exact HO122.out)); (case aS => exact (below_size (by repeat (first | (with_reducible first | exact HB.out | apply below_alloc | apply pw_below_drewN | apply below_drew1) | exact HB.out)))); (case aL => have := LMc14.out; have hlx_ := (show ((l0.take ((ji10) : Int).toNat).drop (a1 : Int).toNat).length = ((ji10).toNat - a1.toNat) from (by rw [List.length_drop, List.length_take]; have h_ : ((ji10) : Int) ≤ (l0.length : Int) := of_decide_eq_true (by first | (with_reducible assumption) | assumption); omega)); omega); intro v125 w18 ho hb hg hat; rw [← Ny124.out] at ho; have n0_ := Aside0.mk (hb); have n1_ := Aside0.mk (ho); clear HB; clear HO122; have HB := n0_; have HO126 := n1_; clear n0_ n1_; clear ho hb hg hat))
                    go_ret2
                    exact ⟨_, by first | rfl | (simp [errW_none, errW_some] <;> rfl) | (simp only [← hji4, ← hji10]; first | rfl | (simp [errW_none, errW_some] <;> rfl)) | (simp [*, errW_none, errW_some] <;> rfl), by (with_reducible repeat (first | apply Kd.R_alloc | apply Kd.R_drewN | apply Kd.R_drew)); exact HO126.out, by repeat (first | (with_reducible first | exact HB.out | apply below_alloc | apply pw_below_drewN | apply below_drew1) | exact HB.out)⟩
                  · rw [if_neg c14] at H
                    exact absurd H (by simp)
                · rw [if_neg c13] at H
                  exact absurd H (by simp)
              · rw [if_neg c12] at H
                exact absurd H (by simp)
            · rw [if_neg c11] at H
              exact absurd H (by simp)
def spec_grown.l0 : Nat → Int → List Int → Option (List Int)
  | 0, _, _ => none
  | k + 1, x1, x5 => if (x5.length : Int) < x1 then (if x5.length < 140737488355328 then (spec_grown.l0 k x1 (x5 ++ [0])) else (none)) else (some x5)
def spec_grown.f (k : Nat) (l0 : List Int) (a1 : Int) : Option (List Int) := (some (([] : List Int) : List Int)).bind fun y127 => (if y127.length + l0.length < 140737488355328 then (spec_grown.l0 k a1 (y127 ++ l0)) else (none))
theorem spec_grown.mono_l : ∀ k, (∀ y0 y1, LeO (spec_grown.l0 k y0 y1) (spec_grown.l0 (k + 1) y0 y1))
  | 0 => fun _ _ r h => by simp [spec_grown.l0] at h
  | k + 1 => by
    have ih0 := spec_grown.mono_l k
    · intro y0 y1
      unfold spec_grown.l0
      repeat' first
      | (with_reducible exact ih0 _ _)
      | (with_reducible exact LeO.refl _)
      | (with_reducible exact LeO.none _)
      | (with_reducible refine LeO.ite ?_ ?_)
      | (with_reducible refine LeO.bind ?_ (fun _ => ?_))
      | exact ih0 _ _
      | exact LeO.none _
      | refine LeO.ite ?_ ?_
      | refine LeO.bind ?_ (fun _ => ?_)
theorem spec_grown.mono : ∀ a0 a1 k, LeO (spec_grown.f k a0 a1) (spec_grown.f (k + 1) a0 a1) := by
  intro a0 a1 k
  have ih0 := spec_grown.mono_l k
  unfold spec_grown.f
  repeat' first
      | (with_reducible exact ih0 _ _)
      | (with_reducible exact LeO.refl _)
      | (with_reducible exact LeO.none _)
      | (with_reducible refine LeO.ite ?_ ?_)
      | (with_reducible refine LeO.bind ?_ (fun _ => ?_))
      | exact ih0 _ _
      | exact LeO.none _
      | refine LeO.ite ?_ ?_
      | refine LeO.bind ?_ (fun _ => ?_)
set_option maxHeartbeats 8000000 in
set_option maxRecDepth 100000 in
theorem spec_grown.calls (k : Nat) (A0 : Option Addr) (c0 : Nat) (l0 : List Int) (a1 : Int) (r : List Int) (w : World) (hr0 : Kd.C (Kd.int .u8) w A0 l0.length l0) (hc0 : l0.length ≤ c0) (h : spec_grown.f k l0 a1 = some r) :
    Calls Tryd.prog 102 #[.slice A0 l0.length c0, .int .i64 a1] w fun e w' => ∃ v0_ : Value, e = .returned (v0_) ∧ Kd.R (Kd.int .u8) 5 w' w.heap.size (fun _ => True) v0_ r ∧ Below w.heap.size w w' := by
  have HR0 := Aside0.mk hr0
  have HC0 := Aside0.mk hc0
  clear hr0 hc0
  have HB := Aside0.mk (Below.refl w.heap.size w)
  have H : ((some (([] : List Int) : List Int)).bind fun y127 => (if y127.length + l0.length < 140737488355328 then (spec_grown.l0 k a1 (y127 ++ l0)) else (none))) = some r := h
  clear h
  obtain ⟨y127, hy127⟩ : ∃ y_ : List Int, y_ = (([] : List Int)) := ⟨_, rfl⟩
  replace H : (if y127.length + l0.length < 140737488355328 then (spec_grown.l0 k a1 (y127 ++ l0)) else (none)) = some r := by first | (rw [hy127]; with_reducible exact H) | (have H2_ := (Option.bind_some _ _).symm.trans H; rw [hy127]; with_reducible exact H2_) | (have H2_ := (Option.bind_some _ _).symm.trans H; with_reducible exact H2_) | with_reducible exact H | (rw [hy127]; exact H) | exact H
  have Ny127 := Aside0.mk hy127
  clear hy127
  by_cases c3 : y127.length + l0.length < 140737488355328
  · rw [if_pos c3] at H
    have LMc3 := Aside0.mk c3
    clear c3
    obtain ⟨y130, hy130⟩ : ∃ y_ : List Int, y_ = (y127 ++ l0) := ⟨_, rfl⟩
    replace H : (spec_grown.l0 k a1 y130) = some r := by first | (rw [hy130]; with_reducible exact H) | (have H2_ := (Option.bind_some _ _).symm.trans H; rw [hy130]; with_reducible exact H2_) | (have H2_ := (Option.bind_some _ _).symm.trans H; with_reducible exact H2_) | with_reducible exact H | (rw [hy130]; exact H) | exact H
    have Ny130 := Aside0.mk hy130
    clear hy130
    have H' := Aside0.mk H
    clear H
    go_enter Tryd.func102, Tryd.ntmps102
    go_wp2_with (first | ((with_reducible refine gate_dst (N := 6) rfl ?_); refine Kd.R_lit (Kd.int .u8) _ 5 ?hg (N := 6) ?hd (xs := ([] : List Int)) (inner := []) (ok := fun _ => True) (okp := fun _ => True) ?hr ?hp (fun _ hk => hk) trivial (Below.refl _ _) (Nat.le_refl _) (by simp) ?_; (case hd => rfl); (case hg => rfl); (case hr => first | (go_simp; done) | (go_simp; rfl)); (case hp => exact (Reps.none _ _)); intro v128 w4 ho5 hb hg_ hnew_; clear hg_ hnew_; (first | rw [← Ny127.out] at ho5 | (simp only [Int.reduceToNat] at ho5; rw [← Ny127.out] at ho5)); have n0_ := Aside0.mk (Kd.R_lower ho5 (below_size (by repeat (first | (with_reducible first | exact HB.out | apply below_alloc | apply pw_below_drewN | apply below_drew1) | exact HB.out)))); have n1_ := Aside0.mk (below_step (by repeat (first | (with_reducible first | exact HB.out | apply below_alloc | apply pw_below_drewN | apply below_drew1) | exact HB.out)) hb); clear HB; have HO129 := n0_; have HB := n1_; clear n0_ n1_; clear hb ho5) | ((with_reducible refine gate_builtin (b := .append) (xs := #[.tmp 6, .tmp 7]) rfl ?_); at_builtin; refine Kd.R_append_rows (Kd.int .u8) (w0 := w) w.heap.size rfl (.tmp 6) (.tmp 7) 22 5 (.int .u8 0) 1 rfl Tryd.underlying22 info5 rfl (by decide) (by omega) v128 y127 l0 _ _ _ (fun _ => True) (fun _ => False) rfl rfl ?aO ?aR (fun _ _ h => h) (fun _ h => h.elim) ?aF ?aB ?aS ?aL ?_; (case aR => repeat (first | exact (Kd.C_below HR0.out HB.out) | (with_reducible refine Kd.C_alloc ?_ _) | (with_reducible refine Kd.C_drewN ?_ _) | (with_reducible refine Kd.C_drew ?_))); (case aB => exact (by repeat (first | (with_reducible first | exact HB.out | apply below_alloc | apply pw_below_drewN | apply below_drew1) | exact HB.out))); (case aF => exact (fun _ _ => trivial)); (case aO => exact (by (with_reducible repeat (first | apply Kd.R_alloc | apply Kd.R_drewN | apply Kd.R_drew)); exact HO129.out)); (case aS => exact (below_size (by repeat (first | (with_reducible first | exact HB.out | apply below_alloc | apply pw_below_drewN | apply below_drew1) | exact HB.out)))); (case aL => have := LMc3.out; omega); intro v131 w6 ho hb hg hat; rw [← Ny130.out] at ho; have n0_ := Aside0.mk (hb); have n1_ := Aside0.mk (ho); clear HB; clear HO129; have HB := n0_; have HO132 := n1_; clear n0_ n1_; clear ho hb hg hat))
    go_loopg [5] k (fun kq v5 w' => ∃ (x5_1 : List Int), Aside0 (spec_grown.l0 kq a1 x5_1 = some r) ∧ Aside0 (kq ≤ k) ∧ Aside0 (Kd.R (Kd.int .u8) 5 w' w.heap.size (fun _ => True) v5 x5_1) ∧ Aside0 (Below w.heap.size w w'))
    case atStart => exact ⟨(y130), H', ⟨Nat.le_refl _⟩, ⟨by (with_reducible repeat (first | apply Kd.R_alloc | apply Kd.R_drewN | apply Kd.R_drew)); exact HO132.out⟩, ⟨by repeat (first | (with_reducible first | exact HB.out | apply below_alloc | apply pw_below_drewN | apply below_drew1) | exact HB.out)⟩⟩
    case round =>
      clear H'
      try clear c1
      try clear p2
      try clear c3
      obtain ⟨x5_1, HA, HK1, HO_5, HB⟩ := hrel
      cases gk with
      | zero => exact absurd HA.out (by simp [spec_grown.l0])
      | succ k1 =>
        have H := HA.out
        clear HA
        simp only [spec_grown.l0] at H
        by_cases c7 : (x5_1.length : Int) < a1
        · rw [if_pos c7] at H
          have c7b0 : decide ((x5_1.length : Int) < a1) = true := decide_eq_true c7
          clear c7
          by_cases c8 : x5_1.length < 140737488355328
          · rw [if_pos c8] at H
            have LMc8 := Aside0.mk c8
            clear c8
            obtain ⟨y133, hy133⟩ : ∃ y_ : List Int, y_ = (x5_1 ++ [0]) := ⟨_, rfl⟩
            replace H : (spec_grown.l0 k1 a1 y133) = some r := by first | (rw [hy133]; with_reducible exact H) | (have H2_ := (Option.bind_some _ _).symm.trans H; rw [hy133]; with_reducible exact H2_) | (have H2_ := (Option.bind_some _ _).symm.trans H; with_reducible exact H2_) | with_reducible exact H | (rw [hy133]; exact H) | exact H
            have Ny133 := Aside0.mk hy133
            clear hy133
            have H' := Aside0.mk H
            clear H
            obtain ⟨Ao9, co9, eo9⟩ := Kd.R_slice HO_5.out
            subst eo9
            go_wp2_with (first | ((with_reducible refine gate_builtin (b := .append) (xs := #[.tmp 13, .tmp 14]) rfl ?_); at_builtin; refine Kd.R_append (Kd.int .u8) (w0 := w) w.heap.size rfl (.tmp 13) (.tmp 14) 22 5 (.int .u8 0) 1 rfl Tryd.underlying22 info5 rfl (by decide) (by omega) (.slice Ao9 x5_1.length co9) x5_1 0 [.int .u8 0] (fun _ => True) (fun _ => False) rfl rfl ?aP (fun _ hk => hk.elim) ?aF ?aO ?aB ?aS ?aL ?_; (case aP => exact rfl); (case aB => exact (by repeat (first | (with_reducible first | exact HB.out | apply below_alloc | apply pw_below_drewN | apply below_drew1) | exact HB.out))); (case aF => exact (fun _ _ => trivial)); (case aO => exact (by (with_reducible repeat (first | apply Kd.R_alloc | apply Kd.R_drewN | apply Kd.R_drew)); exact HO_5.out)); (case aS => exact (below_size (by repeat (first | (with_reducible first | exact HB.out | apply below_alloc | apply pw_below_drewN | apply below_drew1) | exact HB.out)))); (case aL => have := LMc8.out; omega); intro v134 w10 ho hb hg hat; rw [← Ny133.out] at ho; have n0_ := Aside0.mk (hb); have n1_ := Aside0.mk (ho); clear HB; clear HO_5; have HB := n0_; have HO135 := n1_; clear n0_ n1_; clear ho hb hg hat))
            go_roundg k1
            case measure => have := HK1.out; omega
            case rel => exact ⟨(y133), H', ⟨by have := HK1.out; omega⟩, ⟨by (with_reducible repeat (first | apply Kd.R_alloc | apply Kd.R_drewN | apply Kd.R_drew)); exact HO135.out⟩, ⟨by repeat (first | (with_reducible first | exact HB.out | apply below_alloc | apply pw_below_drewN | apply below_drew1) | exact HB.out)⟩⟩
          · rw [if_neg c8] at H
            exact absurd H (by simp)
        · rw [if_neg c7] at H
          have c7b0 : decide ((x5_1.length : Int) < a1) = false := decide_eq_false c7
          clear c7
          obtain rfl := Option.some.inj H
          obtain ⟨Ao11, co11, eo11⟩ := Kd.R_slice HO_5.out
          subst eo11
          go_wp2
          go_ret
          exact ⟨_, by first | rfl | (simp [errW_none, errW_some] <;> rfl) | (simp [*, errW_none, errW_some] <;> rfl), by (with_reducible repeat (first | apply Kd.R_alloc | apply Kd.R_drewN | apply Kd.R_drew)); exact HO_5.out, by repeat (first | (with_reducible first | exact HB.out | apply below_alloc | apply pw_below_drewN | apply below_drew1) | exact HB.out)⟩
  · rw [if_neg c3] at H
    exact absurd H (by simp)
end Go.Proofs.YtnkhfdnahnphdaaDoor.PFnUnionReadOnly
end
section
namespace Go.Proofs.YtnkhfdnahnphdaaDoor
open Go.ChangeShapes Go.WideShapes Go.ChangeAt Go.RowKit Go.Rd
open Go.Proofs.YtnkhfdnahnphdaaDoorW.PrintWords Go.Proofs.YtnkhfdnahnphdaaDoorW.PrintLast Go.Proofs.YtnkhfdnahnphdaaDoorW.PrintMore
open PFnUnionReadOnly
set_option linter.unusedVariables false
namespace Sa
theorem kdC_of {w : World} {A : Option Addr} {n c : Nat} {l : List Int} (h : BytesIn w A n c l) : Kd.C (Kd.int .u8) w A n l := by
  refine ⟨h.len, by have := h.le; have := h.max; simp only [maxLen] at this; omega, fun h0 => ?_⟩
  cases A with
  | none => have := (h.nil rfl).1; omega
  | some x =>
    refine ⟨x, rfl, fun j p hp => ⟨[.int .u8 p], rfl, rfl, fun i u hu => ?_⟩⟩
    have hi : i = 0 := by
      have := (List.getElem?_eq_some_iff.1 hu).1
      simp at this; omega
    subst hi
    cases hu
    have e : x.add (j * (Kd.int .u8).sz + 0) = x.add j := by
      have : (Kd.int .u8).sz = 1 := rfl
      rw [this, Nat.mul_one, Nat.add_zero]
    rw [e]
    exact h.cells x rfl j _ (by simp [hp])
theorem own_of_R {w : World} {B : Nat} {ok : Nat → Prop} {v : Value} {l : List Int} (h : Kd.R (Kd.int .u8) 5 w B ok v l) : w.ownsRow B 5 1 v l.length (l.map (.int .u8)) := by
  obtain ⟨_, inner, ho, hr⟩ := h
  have e : inner = l.map (.int .u8) := by
    apply List.ext_getElem?
    intro j
    have hl := hr.1
    have hs : (Kd.int .u8).sz = 1 := rfl
    rw [hs, Nat.mul_one] at hl
    by_cases hj : j < l.length
    · have h1 := hr.2 j _ (List.getElem?_eq_getElem hj)
      have h2 : (inner.drop (j * 1)).take 1 = [.int .u8 l[j]] := h1
      rw [Nat.mul_one] at h2
      have h3 : ((inner.drop j).take 1)[0]? = some (.int .u8 l[j]) := by rw [h2]; rfl
      rw [List.getElem?_take_of_lt (by omega), List.getElem?_drop, Nat.add_zero] at h3
      rw [h3, List.getElem?_map, List.getElem?_eq_getElem hj]
      rfl
    · rw [List.getElem?_eq_none (by omega), List.getElem?_eq_none (by simp; omega)]
  rw [← e]
  exact ho
/-- Bytes with zeros behind them up to a size. -/
def grow (l : List Int) (n : Int) : List Int := l ++ List.replicate (n - l.length).toNat 0
theorem grow_length (l : List Int) (n : Int) : ((grow l n).length : Int) = max (l.length : Int) n := by unfold grow; simp; omega
theorem grown_l (n : Int) : ∀ (d : Nat) (l : List Int), (n - l.length).toNat ≤ d → l.length + d < 140737488355328 → spec_grown.l0 (d + 1) n l = some (grow l n)
  | 0, l, hd, hb => by
    unfold spec_grown.l0
    rw [if_neg (by omega)]
    unfold grow
    rw [show (n - l.length).toNat = 0 by omega]
    simp
  | d + 1, l, hd, hb => by
    unfold spec_grown.l0
    by_cases h : (l.length : Int) < n
    · rw [if_pos h, if_pos (by omega), grown_l n d (l ++ [0]) (by simp; omega) (by simp; omega)]
      unfold grow
      rw [List.append_assoc]
      congr 2
      rw [show (n - l.length).toNat = (n - (l ++ [0]).length).toNat + 1 by simp; omega, List.replicate_succ]
      rfl
    · rw [if_neg h]
      unfold grow
      rw [show (n - l.length).toNat = 0 by omega]
      simp
theorem grown_any (A : Option Addr) (m c : Nat) (l : List Int) (n : Int) (w : World) (h : BytesIn w A m c l) (hl : l.length ≤ 1000000000) (hn : n ≤ 1000000000) :
    Calls Tryd.prog 102 #[.slice A m c, .int .i64 n] w fun e w' => ∃ v, e = .returned v ∧ w'.ownsRow w.heap.size 5 1 v (grow l n).length ((grow l n).map (.int .u8)) ∧ Below w.heap.size w w' := by
  have hm := h.len
  subst hm
  refine (spec_grown.calls (n.toNat + 1) A c l n (grow l n) w (kdC_of h) h.le ?_).mono ?_
  · unfold spec_grown.f
    simp only [Option.bind_some, List.length_nil, List.nil_append]
    rw [if_pos (by omega)]
    exact grown_l n n.toNat l (by omega) (by omega)
  · rintro e w' ⟨v, rfl, hR, hB⟩
    exact ⟨v, rfl, own_of_R hR, hB⟩
theorem splice_take {α : Type} (X B : List α) (a m L : Nat) (hB : B.length = m) (h1 : a + m ≤ L) (h2 : L ≤ X.length) :
    (X.take a ++ B ++ X.drop (a + B.length)).take L = (X.take L).take a ++ B ++ (X.take L).drop (a + m) := by
  subst hB
  have e1 : (X.take a ++ B).length = a + B.length := by simp; omega
  rw [List.take_append, e1, List.take_of_length_le (by omega), List.take_take, Nat.min_eq_left (by omega), List.drop_take]
def fromAt (c a : Nat) : Nat := if c = a then 0 else a
theorem from_run (g n c a : Nat) (h : a ≤ n) (hc : n ≤ c) (W : World) : (Instr.slice 22 (.slice (some ⟨g, 0, none⟩) n c) (some (.int .i64 (a : Int))) none none).run Tryd.prog W = .ok (.slice (some ⟨g, fromAt c a, none⟩) (n - a) (c - a)) W := by
  have hu := Tryd.underlying22
  unfold fromAt
  by_cases e : c = a
  · subst e
    go_simp
  · rw [if_neg e]
    go_simp
theorem from_nil (W : World) : (Instr.slice 22 (.slice none 0 0) (some (.int .i64 0)) none none).run Tryd.prog W = .ok (.slice none 0 0) W := by
  have hu := Tryd.underlying22
  go_simp
def overw (l : List Int) (a : Nat) (b : List Int) : List Int := (grow l (a + b.length)).take a ++ b ++ (grow l (a + b.length)).drop (a + b.length)
theorem over_any (A : Option Addr) (m c : Nat) (l : List Int) (a : Nat) (A2 : Option Addr) (m2 c2 : Nat) (b : List Int) (w : World) (h : BytesIn w A m c l) (h2 : BytesIn w A2 m2 c2 b) (hl : l.length ≤ 1000000) (ha : a ≤ 1000000) (hb : b.length ≤ 1000000) :
    Calls Tryd.prog 103 #[.slice A m c, .int .i64 a, .slice A2 m2 c2] w fun e w' => ∃ v, e = .returned v ∧ w'.ownsRow w.heap.size 5 1 v (overw l a b).length ((overw l a b).map (.int .u8)) ∧ Below w.heap.size w w' := by
  have hm := h.len
  have hm2 := h2.len
  subst hm hm2
  have HB2 := Lib.hid h2
  have hg := grown_any A l.length c l ((a : Int) + (b.length : Int)) w h (by omega) (by omega)
  unfold overw
  obtain ⟨G, hG⟩ : ∃ G, grow l ((a : Int) + (b.length : Int)) = G := ⟨_, rfl⟩
  have hGl : G.length = max l.length (a + b.length) := by have := grow_length l ((a : Int) + (b.length : Int)); rw [hG] at this; omega
  rw [hG] at hg ⊢
  have ha' : a ≤ G.length := by omega
  have hab : Hid (a + b.length ≤ G.length) := by show _ ≤ _; omega
  have HG := Lib.hid hg
  clear hg h h2 hGl hG
  go_enter Tryd.func103, Tryd.ntmps103
  go_upto_region 2 with (go_at_call 102; refine HG.out.mono ?_; rintro e w1 ⟨v, rfl, ho, hB⟩)
  rcases ho.2 with ⟨rfl, h0⟩ | ⟨g, cap, cur, rfl, hge, hgc, hnc, hcm, hcs, htk⟩
  · have hab' := hab.out
    obtain rfl : a = 0 := by omega
    obtain rfl : b = [] := List.eq_nil_of_length_eq_zero (by omega)
    obtain rfl : G = [] := List.eq_nil_of_length_eq_zero h0
    have hsl := from_nil w1
    have hs : (Tryd.prog.info? 5).map (·.size) = some 1 := by kernel_rfl
    have hcp := run_copy_none (P := Tryd.prog) w1 22 22 3 5 none A2 0 0 0 c2 Tryd.underlying22 hs (by simp)
    clear hab hab' ha ha' hb hl HG
    go_wp2_with fail
    go_ret
    exact ⟨_, rfl, World.ownsRow_nil _ _ _ _, hB⟩
  · have hab' := hab.out
    have hcur : cur.size = cap := by rw [hcs, Nat.mul_one]
    have hfa : fromAt cap a + (G.length - a) ≤ cur.size := by unfold fromAt; split <;> omega
    obtain ⟨v2, w2, hr2, hv2, hg2, hw2, hz2⟩ := copy_bytes 3 g (fromAt cap a) (G.length - a) (cap - a) b.length c2 cur 5 hgc hfa (by omega) A2 b (kdC_of (HB2.out.below hB))
    subst hv2
    have hsl := from_run g G.length cap a ha' hnc
    have HW := Lib.hid hw2
    have HT := Lib.hid htk
    have HGE := Lib.hid hge
    have HNC := Lib.hid hnc
    have HCM := Lib.hid hcm
    have HCS := Lib.hid hcur
    have HA := Lib.hid ha'
    clear hab' hge hcs hw2 hz2 htk hnc hcm hcur hfa ha' ha hb hl HG
    go_wp2_with fail
    go_ret
    have ha' := HA.out
    have hab' := hab.out
    have hnc := HNC.out
    have hcur := HCS.out
    have ht := HT.out
    rw [Nat.mul_one] at ht
    have hB2 : Below w.heap.size w w2 := hB.trans (HW.out.below hB.size (fun k hk e => by subst e; have := HGE.out; omega))
    have hlen : (List.take a G ++ b ++ List.drop (a + b.length) G).length = G.length := by simp; omega
    refine ⟨_, rfl, ?_, hB2⟩
    refine ⟨by simp, .inr ⟨g, cap, _, ?_, HGE.out, hg2, ?_, HCM.out, ?_, ?_⟩⟩
    · rw [hlen]; rfl
    · rw [hlen]; exact hnc
    · rw [Nat.mul_one]; show (splice cur.toList _ _).length = cap; rw [length_splice _ _ _ (by simp; unfold fromAt; split <;> omega)]; simpa using hcur
    · rw [hlen, Nat.mul_one]
      show (splice cur.toList (fromAt cap a) (b.map (Value.int .u8))).take G.length = _
      rw [List.map_append, List.map_append, List.map_take, List.map_drop, ← ht]
      by_cases e : cap = a
      · obtain rfl : b = [] := List.eq_nil_of_length_eq_zero (by omega)
        simp [splice, fromAt, e]
      · have e2 : fromAt cap a = a := by unfold fromAt; rw [if_neg e]
        rw [e2]
        unfold splice
        have hcl : cur.toList.length = cap := by simpa using hcur
        rw [← List.append_assoc]
        exact splice_take cur.toList (b.map _) a b.length G.length (by simp) hab' (by omega)
/-- What is read at a place. -/
def rdTell (l : List Int) (a n : Int) : List Int × Int := if a < 0 then ([], 13) else if 0 < n ∧ a = l.length then ([], 4) else if l.length < a then ([], 5) else ((l.drop a.toNat).take n.toNat, 0)
theorem read_any (A : Option Addr) (m c : Nat) (l : List Int) (a n : Int) (w : World) (h : BytesIn w A m c l) (hl : l.length ≤ 1000000000) (hn : n ≤ 1000000000) (ha : a ≤ 1152921504606846976) :
    Calls Tryd.prog 101 #[.slice A m c, .int .i64 a, .int .i64 n] w fun e w' => ∃ v, e = .returned (.tuple #[v, .int .i64 (rdTell l a n).2]) ∧ w'.ownsRow w.heap.size 5 1 v (rdTell l a n).1.length ((rdTell l a n).1.map (.int .u8)) ∧ Below w.heap.size w w' := by
  have hm := h.len
  subst hm
  refine (spec_readFrom.calls 1 A c l a n (rdTell l a n).1 (rdTell l a n).2 w (kdC_of h) h.le ?_).mono ?_
  · show spec_readFrom.f 1 l a n = some (rdTell l a n)
    unfold spec_readFrom.f rdTell
    by_cases h0 : a < 0
    · rw [if_pos h0, if_pos h0]
    rw [if_neg h0, if_neg h0]
    obtain ⟨N, hN⟩ : ∃ N : Nat, mx n 0 = (N : Int) := ⟨n.toNat, by unfold mx; split <;> omega⟩
    have hNn : n.toNat = N := by unfold mx at hN; split at hN <;> omega
    have hN0 : (0 < n) ↔ (0 < N) := by omega
    rw [hN, hNn]
    have key : ∀ b : Bool, (b = true ↔ (0 < n ∧ a = (l.length : Int))) → spec_readFrom.j0 1 l a (N : Int) b = some (if 0 < n ∧ a = (l.length : Int) then ([], 4) else if (l.length : Int) < a then ([], 5) else ((l.drop a.toNat).take N, 0)) := by
      intro b hb
      show spec_readFrom.j0 (0 + 1) l a (N : Int) b = _
      rw [spec_readFrom.j0]
      by_cases h1 : 0 < n ∧ a = (l.length : Int)
      · rw [if_pos (hb.2 h1), if_pos h1]
      rw [if_neg (fun e => h1 (hb.1 e)), if_neg h1]
      by_cases h2 : (l.length : Int) < a
      · rw [if_pos h2, if_pos h2]
      rw [if_neg h2, if_neg h2]
      have hw : wrap64 (a + (N : Int)) = a + N := by unfold wrap64; omega
      simp only [Option.bind_some, hw, List.length_nil, List.nil_append]
      have hm1 : mn (l.length : Int) (a + N) ≤ l.length := by unfold mn; split <;> omega
      have hm2 : a ≤ mn (l.length : Int) (a + N) := by unfold mn; split <;> omega
      rw [if_pos (by omega), if_pos hm2, if_pos hm1, if_pos (by simp; omega)]
      congr 2
      rw [List.drop_take]
      have hm3 : (mn (l.length : Int) (a + N)).toNat - a.toNat = min N (l.length - a.toNat) := by unfold mn; split <;> omega
      rw [hm3, ← List.length_drop, ← List.take_eq_take_min]
    split
    · rename_i h3
      refine key _ ?_
      have : 0 < n := by omega
      simp [this]
    · rename_i h3
      refine key _ ?_
      have : ¬ 0 < n := by omega
      simp [this]
  · rintro e w' ⟨v, rfl, hR, hB⟩
    exact ⟨v, rfl, own_of_R hR, hB⟩
end Sa
end Go.Proofs.YtnkhfdnahnphdaaDoor
end
