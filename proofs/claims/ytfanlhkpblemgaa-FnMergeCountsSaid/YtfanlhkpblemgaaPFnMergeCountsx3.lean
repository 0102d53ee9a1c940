-- PRINTED BY print.sh 35421559b90ae4d0a3588c463048766b98c2df88dd9212a6774a882060cdf62d: not written by this session
import Derived.Test.YtfanlhkpblemgaaPFnMergeCountsx0
import Derived.Test.YtfanlhkpblemgaaPFnMergeCountsx2
namespace Go.Proofs.Ytfanlhkpblemgaa.PFnMergeCounts
open Go.RowKit Go.Proofs.YtfanlhkpblemgaaW.PrintWords Go.Proofs.YtfanlhkpblemgaaW.PrintLast Go.Proofs.YtfanlhkpblemgaaW.PrintMore
attribute [local go_sem] max2_int min2_int max_two min_two max_three min_three max_four min_four   -- for this text's walks alone
set_option linter.unusedVariables false
set_option linter.unusedSimpArgs false

/-! ### laws_hasName: function 17 -/
def laws_hasName.l0 : Nat → ByteArray → List ByteArray → Int → Int → Option (Bool)
  | 0, _, _, _, _ => none
  | k + 1, x1, x7, x8, x9 => if x9 < x8 then (if 0 ≤ x9 then (if x9 < (x7.length : Int) then (if (rdOf ByteArray.empty x7 x9).toList = x1.toList then (some true) else (laws_hasName.l0 k x1 x7 x8 (wrap64 (x9 + 1)))) else (none)) else (none)) else (some false)
def laws_hasName.f (k : Nat) (l0 : List ByteArray) (a1 : ByteArray) : Option (Bool) := laws_hasName.l0 k a1 l0 (l0.length : Int) 0
theorem laws_hasName.mono_l : ∀ k, (∀ y0 y1 y2 y3, LeO (laws_hasName.l0 k y0 y1 y2 y3) (laws_hasName.l0 (k + 1) y0 y1 y2 y3))
  | 0 => fun _ _ _ _ r h => by simp [laws_hasName.l0] at h
  | k + 1 => by
    have ih0 := laws_hasName.mono_l k
    · intro y0 y1 y2 y3
      unfold laws_hasName.l0
      repeat' first
      | (with_reducible exact ih0 _ _ _ _)
      | (with_reducible exact LeO.refl _)
      | (with_reducible exact LeO.none _)
      | (with_reducible refine LeO.ite ?_ ?_)
      | (with_reducible refine LeO.bind ?_ (fun _ => ?_))
      | exact ih0 _ _ _ _
      | exact LeO.none _
      | refine LeO.ite ?_ ?_
      | refine LeO.bind ?_ (fun _ => ?_)
theorem laws_hasName.mono : ∀ a0 a1 k, LeO (laws_hasName.f k a0 a1) (laws_hasName.f (k + 1) a0 a1) := by
  intro a0 a1 k
  have ih0 := laws_hasName.mono_l k
  unfold laws_hasName.f
  repeat' first
      | (with_reducible exact ih0 _ _ _ _)
      | (with_reducible exact LeO.refl _)
      | (with_reducible exact LeO.none _)
      | (with_reducible refine LeO.ite ?_ ?_)
      | (with_reducible refine LeO.bind ?_ (fun _ => ?_))
      | exact ih0 _ _ _ _
      | exact LeO.none _
      | refine LeO.ite ?_ ?_
      | refine LeO.bind ?_ (fun _ => ?_)
set_option maxHeartbeats 8000000 in
set_option maxRecDepth 100000 in
theorem laws_hasName.calls (k : Nat) (A0 : Option Addr) (c0 : Nat) (l0 : List ByteArray) (a1 : ByteArray) (r : Bool) (w : World) (hr0 : Kd.C Kd.string w A0 l0.length l0) (hc0 : l0.length ≤ c0) (h : laws_hasName.f k l0 a1 = some r) :
    Calls Try.prog 17 #[.slice A0 l0.length c0, .string a1] w fun e w' => e = .returned (.bool r) ∧ Drawn0 w w' := by
  have HR0 := Aside0.mk hr0
  have HC0 := Aside0.mk hc0
  clear hr0 hc0
  have H : (laws_hasName.l0 k a1 l0 (l0.length : Int) 0) = some r := h
  clear h
  have H' := Aside0.mk H
  clear H
  go_enter Try.func17, Try.ntmps17
  go_wp2
  go_loopg [9] k (fun kq v9 w' => ∃ (x9_1 : Int), v9 = .int .i64 x9_1 ∧ Aside0 (laws_hasName.l0 kq a1 l0 (l0.length : Int) x9_1 = some r) ∧ Aside0 (kq ≤ k) ∧ Drawn0 w w')
  case atStart => exact ⟨(0), (by first | rfl | (simp; done) | (simp [*]; done)), H', ⟨Nat.le_refl _⟩, by repeat (first | exact Drawn0.refl _ | apply Drawn0.step)⟩
  case round =>
    clear H'
    try clear c1
    try clear p2
    obtain ⟨x9_1, rfl, HA, HK1, ⟨m1, rfl⟩⟩ := hrel
    cases gk with
    | zero => exact absurd HA.out (by simp [laws_hasName.l0])
    | succ k1 =>
      have H := HA.out
      clear HA
      simp only [laws_hasName.l0] at H
      by_cases c3 : x9_1 < (l0.length : Int)
      · rw [if_pos c3] at H
        have c3b0 : decide (x9_1 < (l0.length : Int)) = true := decide_eq_true c3
        clear c3
        by_cases c4 : 0 ≤ x9_1
        · rw [if_pos c4] at H
          have c4b0 : decide (0 ≤ x9_1) = true := decide_eq_true c4
          clear c4
          by_cases c5 : x9_1 < (l0.length : Int)
          · rw [if_pos c5] at H
            have c5b0 : decide (x9_1 < (l0.length : Int)) = true := decide_eq_true c5
            clear c5
            by_cases c6 : (rdOf ByteArray.empty l0 x9_1).toList = a1.toList
            · rw [if_pos c6] at H
              have c6b0 : ((rdOf ByteArray.empty l0 x9_1).toList == a1.toList) = true := beq_iff_eq.mpr c6
              have c6b1 : ((rdOf ByteArray.empty l0 x9_1).toList != a1.toList) = false := bne_eq_false_iff_eq.mpr c6
              clear c6
              obtain rfl := Option.some.inj H
              have p129 : 0 ≤ (x9_1 : Int) := of_decide_eq_true (by first | (with_reducible assumption) | assumption)
              have q129 : x9_1 < (l0.length : Int) := of_decide_eq_true (by first | (with_reducible assumption) | assumption)
              obtain ⟨ad129, e129, hx129_0⟩ := Kd.at_string HR0.out x9_1 p129 q129
              cases e129
              replace p129 := eq_true p129
              replace q129 := eq_true q129
              go_wp2
              go_ret
              exact ⟨by first | rfl | (simp; done) | (simp [*]; done), by repeat (first | exact Drawn0.refl _ | apply Drawn0.step)⟩
            · rw [if_neg c6] at H
              have c6b0 : ((rdOf ByteArray.empty l0 x9_1).toList == a1.toList) = false := beq_eq_false_iff_ne.mpr c6
              have c6b1 : ((rdOf ByteArray.empty l0 x9_1).toList != a1.toList) = true := bne_iff_ne.mpr c6
              have H' := Aside0.mk H
              clear H
              have p129 : 0 ≤ (x9_1 : Int) := of_decide_eq_true (by first | (with_reducible assumption) | assumption)
              have q129 : x9_1 < (l0.length : Int) := of_decide_eq_true (by first | (with_reducible assumption) | assumption)
              obtain ⟨ad129, e129, hx129_0⟩ := Kd.at_string HR0.out x9_1 p129 q129
              cases e129
              replace p129 := eq_true p129
              replace q129 := eq_true q129
              go_wp2
              go_roundg k1
              case measure => have := HK1.out; omega
              case rel => exact ⟨(wrap64 (x9_1 + 1)), (by first | rfl | (simp; done) | (simp [*]; done)), H', ⟨by have := HK1.out; omega⟩, by repeat (first | exact Drawn0.refl _ | apply Drawn0.step)⟩
          · rw [if_neg c5] at H
            exact absurd H (by simp)
        · rw [if_neg c4] at H
          exact absurd H (by simp)
      · rw [if_neg c3] at H
        have c3b0 : decide (x9_1 < (l0.length : Int)) = false := decide_eq_false c3
        clear c3
        obtain rfl := Option.some.inj H
        go_wp2
        go_ret
        exact ⟨by first | rfl | (simp; done) | (simp [*]; done), by repeat (first | exact Drawn0.refl _ | apply Drawn0.step)⟩

/-! ### laws_lastNames: function 8 -/
def laws_lastNames.l0 : Nat → List ByteArray → List (S35) → Int → Int → Option (List ByteArray)
  | 0, _, _, _, _ => none
  | k + 1, x3, x8, x9, x10 => if x10 < x9 then (if 0 ≤ x10 then (if x10 < (x8.length : Int) then ((spec_MemBase.f k ((rd_T35 x8 x10).f0)).bind fun t135 => ((laws_hasName.f k x3 t135).bind fun t136 => (if t136 = true then (laws_lastNames.l0 k x3 x8 x9 (wrap64 (x10 + 1))) else (if x3.length < 8796093022208 then (laws_lastNames.l0 k (x3 ++ [t135]) x8 x9 (wrap64 (x10 + 1))) else (none))))) else (none)) else (none)) else (some x3)
def laws_lastNames.f (k : Nat) (l0 : List (S35)) : Option (List ByteArray) := laws_lastNames.l0 k (([] : List ByteArray)) l0 (l0.length : Int) 0
theorem laws_lastNames.mono_l : ∀ k, (∀ y0 y1 y2 y3, LeO (laws_lastNames.l0 k y0 y1 y2 y3) (laws_lastNames.l0 (k + 1) y0 y1 y2 y3))
  | 0 => fun _ _ _ _ r h => by simp [laws_lastNames.l0] at h
  | k + 1 => by
    have ih0 := laws_lastNames.mono_l k
    · intro y0 y1 y2 y3
      unfold laws_lastNames.l0
      repeat' first
      | (with_reducible exact ih0 _ _ _ _)
      | (with_reducible exact laws_hasName.mono _ _ _)
      | (with_reducible exact spec_MemBase.mono _ _)
      | (with_reducible exact LeO.refl _)
      | (with_reducible exact LeO.none _)
      | (with_reducible refine LeO.ite ?_ ?_)
      | (with_reducible refine LeO.bind ?_ (fun _ => ?_))
      | exact ih0 _ _ _ _
      | exact laws_hasName.mono _ _ _
      | exact spec_MemBase.mono _ _
      | exact LeO.none _
      | refine LeO.ite ?_ ?_
      | refine LeO.bind ?_ (fun _ => ?_)
theorem laws_lastNames.mono : ∀ a0 k, LeO (laws_lastNames.f k a0) (laws_lastNames.f (k + 1) a0) := by
  intro a0 k
  have ih0 := laws_lastNames.mono_l k
  unfold laws_lastNames.f
  repeat' first
      | (with_reducible exact ih0 _ _ _ _)
      | (with_reducible exact laws_hasName.mono _ _ _)
      | (with_reducible exact spec_MemBase.mono _ _)
      | (with_reducible exact LeO.refl _)
      | (with_reducible exact LeO.none _)
      | (with_reducible refine LeO.ite ?_ ?_)
      | (with_reducible refine LeO.bind ?_ (fun _ => ?_))
      | exact ih0 _ _ _ _
      | exact laws_hasName.mono _ _ _
      | exact spec_MemBase.mono _ _
      | exact LeO.none _
      | refine LeO.ite ?_ ?_
      | refine LeO.bind ?_ (fun _ => ?_)
set_option maxHeartbeats 8000000 in
set_option maxRecDepth 100000 in
theorem laws_lastNames.calls (k : Nat) (A0 : Option Addr) (c0 : Nat) (l0 : List (S35)) (r : List ByteArray) (w : World) (hr0 : Kd.C k35 w A0 l0.length l0) (hc0 : l0.length ≤ c0) (h : laws_lastNames.f k l0 = some r) :
    Calls Try.prog 8 #[.slice A0 l0.length c0] w fun e w' => ∃ v0_ : Value, e = .returned (v0_) ∧ Kd.R Kd.string 9 w' w.heap.size (fun _ => True) v0_ r ∧ Below w.heap.size w w' := by
  have hu35 := Try.underlying35
  have HR0 := Aside0.mk hr0
  have HC0 := Aside0.mk hc0
  clear hr0 hc0
  have HB := Aside0.mk (Below.refl w.heap.size w)
  have H : (laws_lastNames.l0 k (([] : List ByteArray)) l0 (l0.length : Int) 0) = some r := h
  clear h
  obtain ⟨y130, hy130⟩ : ∃ y_ : List ByteArray, y_ = (([] : List ByteArray)) := ⟨_, rfl⟩
  replace H : (laws_lastNames.l0 k y130 l0 (l0.length : Int) 0) = some r := by first | (rw [hy130]; with_reducible exact H) | (have H2_ := (Option.bind_some _ _).symm.trans H; rw [hy130]; with_reducible exact H2_) | (have H2_ := (Option.bind_some _ _).symm.trans H; with_reducible exact H2_) | with_reducible exact H | (rw [hy130]; exact H) | exact H
  have Ny130 := Aside0.mk hy130
  clear hy130
  have H' := Aside0.mk H
  clear H
  go_enter Try.func8, Try.ntmps8
  go_wp2_with (first | ((with_reducible refine gate_dst (N := 7) rfl ?_); refine Kd.R_lit Kd.string _ 9 ?hg (N := 7) ?hd (xs := ([] : List ByteArray)) (inner := []) (ok := fun _ => True) (okp := fun _ => True) ?hr ?hp (fun _ hk => hk) trivial (Below.refl _ _) (Nat.le_refl _) (by simp) ?_; (case hd => rfl); (case hg => rfl); (case hr => first | (go_simp; done) | (go_simp; rfl)); (case hp => exact (Reps.none _ _)); intro v131 w2 ho3 hb hg_ hnew_; clear hg_ hnew_; (first | rw [← Ny130.out] at ho3 | (simp only [Int.reduceToNat] at ho3; rw [← Ny130.out] at ho3)); have n0_ := Aside0.mk (Kd.R_lower ho3 (below_size (by repeat (first | (with_reducible first | exact HB.out | apply below_alloc | apply pw_below_drewN | apply below_drew1) | exact HB.out)))); have n1_ := Aside0.mk (below_step (by repeat (first | (with_reducible first | exact HB.out | apply below_alloc | apply pw_below_drewN | apply below_drew1) | exact HB.out)) hb); clear HB; have HO132 := n0_; have HB := n1_; clear n0_ n1_; clear hb ho3))
  go_loopg [3, 10] k (fun kq v3 v10 w' => ∃ (x3_1 : List ByteArray) (x10_1 : Int), v10 = .int .i64 x10_1 ∧ Aside0 (laws_lastNames.l0 kq x3_1 l0 (l0.length : Int) x10_1 = some r) ∧ Aside0 (kq ≤ k) ∧ Aside0 (Kd.R Kd.string 9 w' w.heap.size (fun _ => True) v3 x3_1) ∧ Aside0 (Below w.heap.size w w'))
  case atStart => exact ⟨(y130), (0), (by first | rfl | (simp; done) | (simp [*]; done)), H', ⟨Nat.le_refl _⟩, ⟨by (with_reducible repeat (first | apply Kd.R_alloc | apply Kd.R_drewN | apply Kd.R_drew)); exact HO132.out⟩, ⟨by repeat (first | (with_reducible first | exact HB.out | apply below_alloc | apply pw_below_drewN | apply below_drew1) | exact HB.out)⟩⟩
  case round =>
    clear H'
    try clear p2
    obtain ⟨x3_1, x10_1, rfl, HA, HK1, HO_3, HB⟩ := hrel
    cases gk with
    | zero => exact absurd HA.out (by simp [laws_lastNames.l0])
    | succ k1 =>
      have H := HA.out
      clear HA
      simp only [laws_lastNames.l0] at H
      by_cases c4 : x10_1 < (l0.length : Int)
      · rw [if_pos c4] at H
        have c4b0 : decide (x10_1 < (l0.length : Int)) = true := decide_eq_true c4
        clear c4
        by_cases c5 : 0 ≤ x10_1
        · rw [if_pos c5] at H
          have c5b0 : decide (0 ≤ x10_1) = true := decide_eq_true c5
          clear c5
          by_cases c6 : x10_1 < (l0.length : Int)
          · rw [if_pos c6] at H
            have c6b0 : decide (x10_1 < (l0.length : Int)) = true := decide_eq_true c6
            clear c6
            replace H := Option.bind_eq_some_iff.mp H
            obtain ⟨t135, A70, H⟩ := H
            replace H : ((laws_hasName.f k1 x3_1 t135).bind fun t136 => (if t136 = true then (laws_lastNames.l0 k1 x3_1 l0 (l0.length : Int) (wrap64 (x10_1 + 1))) else (if x3_1.length < 8796093022208 then (laws_lastNames.l0 k1 (x3_1 ++ [t135]) l0 (l0.length : Int) (wrap64 (x10_1 + 1))) else (none)))) = some r := H
            have A7 := Aside0.mk A70
            clear A70
            replace H := Option.bind_eq_some_iff.mp H
            obtain ⟨t136, A80, H⟩ := H
            replace H : (if t136 = true then (laws_lastNames.l0 k1 x3_1 l0 (l0.length : Int) (wrap64 (x10_1 + 1))) else (if x3_1.length < 8796093022208 then (laws_lastNames.l0 k1 (x3_1 ++ [t135]) l0 (l0.length : Int) (wrap64 (x10_1 + 1))) else (none))) = some r := H
            have A8 := Aside0.mk A80
            clear A80
            by_cases c9 : t136 = true
            · subst c9
              have H1 : (laws_lastNames.l0 k1 x3_1 l0 (l0.length : Int) (wrap64 (x10_1 + 1))) = some r := by rw [if_pos rfl] at H; exact H
              clear H
              have H := H1
              clear H1
              have H' := Aside0.mk H
              clear H
              have p133 : 0 ≤ (x10_1 : Int) := of_decide_eq_true (by first | (with_reducible assumption) | assumption)
              have q133 : x10_1 < (l0.length : Int) := of_decide_eq_true (by first | (with_reducible assumption) | assumption)
              obtain ⟨ad133, A133_3, c133_3, e133, hx133_0, hx133_1, hx133_2, hx133_3, hx133_4, hl133_3, hi133_3⟩ := at_T35 HR0.out x10_1 p133 q133
              cases e133
              replace hx133_0 := (HB.out.cell (World.block_lt_of_cell? w _ hx133_0)).trans hx133_0
              replace hx133_1 := (HB.out.cell (World.block_lt_of_cell? w _ hx133_1)).trans hx133_1
              replace hx133_2 := (HB.out.cell (World.block_lt_of_cell? w _ hx133_2)).trans hx133_2
              replace hx133_3 := (HB.out.cell (World.block_lt_of_cell? w _ hx133_3)).trans hx133_3
              replace hx133_4 := (HB.out.cell (World.block_lt_of_cell? w _ hx133_4)).trans hx133_4
              have HR133_3 := Aside0.mk hi133_3
              have HC133_3 := Aside0.mk hl133_3
              clear hi133_3 hl133_3
              replace p133 := eq_true p133
              replace q133 := eq_true q133
              go_wp2_with (first | ((with_reducible refine gate_dst (N := 5) rfl ?_); refine box_event ?hg (N := 5) ?hd (cs := #[.string (⟨#[]⟩ : ByteArray), .int .i64 0, .bool false, .slice none 0 0, .int .i64 0]) (t := 35) ?hr ?_; (case hd => rfl); (case hg => rfl); (case hr => first | (go_simp; done) | (go_simp; rfl)); intro gb134 hg w10 hbox hb; have n0_ := Aside0.mk (Kd.R_below (by (with_reducible repeat (first | apply Kd.R_alloc | apply Kd.R_drewN | apply Kd.R_drew)); exact HO_3.out) hb); have n1_ := Aside0.mk (below_step (by repeat (first | (with_reducible first | exact HB.out | apply below_alloc | apply pw_below_drewN | apply below_drew1) | exact HB.out)) hb); have n2_ := Aside0.mk (hbox); have n3_ := Aside0.mk ((by rw [hg]; exact (below_size (by repeat (first | (with_reducible first | exact HB.out | apply below_alloc | apply pw_below_drewN | apply below_drew1) | exact HB.out))) : w.heap.size ≤ gb134)); have n4_ := Aside0.mk ((by rw [hg]; exact (below_size (by repeat (first | (with_reducible first | exact HB.out | apply below_alloc | apply pw_below_drewN | apply below_drew1) | exact HB.out))) : w.heap.size ≤ gb134)); clear HO_3; clear HB; have HO_3 := n0_; have HB := n1_; have BK134 := n2_; have GW134 := n3_; have GE134 := n4_; clear n0_ n1_ n2_ n3_ n4_; clear hb hbox hg; have hcz11_0 : w10.cell? ⟨gb134, 0, none⟩ = some (.string (⟨#[]⟩ : ByteArray)) := (blk_cell BK134.out 0).trans rfl; have hcz11_1 : w10.cell? ⟨gb134, 1, none⟩ = some (.int .i64 0) := (blk_cell BK134.out 1).trans rfl; have hcz11_2 : w10.cell? ⟨gb134, 2, none⟩ = some (.bool false) := (blk_cell BK134.out 2).trans rfl; have hcz11_3 : w10.cell? ⟨gb134, 3, none⟩ = some (.slice none 0 0) := (blk_cell BK134.out 3).trans rfl; have hcz11_4 : w10.cell? ⟨gb134, 4, none⟩ = some (.int .i64 0) := (blk_cell BK134.out 4).trans rfl; have hfz11_0 := blk_frozen BK134.out 0; have hfz11_1 := blk_frozen BK134.out 1; have hfz11_2 := blk_frozen BK134.out 2; have hfz11_3 := blk_frozen BK134.out 3; have hfz11_4 := blk_frozen BK134.out 4) | ((with_reducible refine gate_callee (f := 16) rfl ?_); refine goesL_ (some 16) rfl rfl Try.func16 (by kernel_rfl) rfl #[.string ((rd_T35 l0 x10_1).f0)] rfl (by (try simp only [List.map_toArray, List.map_cons, List.map_nil]); first | done | rfl | (simp only [List.length_drop, List.length_take]; rfl)) ?_; (with_reducible refine (spec_MemBase.calls k1 ((rd_T35 l0 x10_1).f0) t135 _ A7.out).mono ?_); rintro e w' ⟨rfl, ⟨nd, rfl⟩⟩; refine ⟨_, rfl, ?_⟩; obtain ⟨Ao12, co12, eo12⟩ := Kd.R_slice HO_3.out; subst eo12) | ((with_reducible refine gate_callee (f := 17) rfl ?_); refine goesL_ (some 19) rfl rfl Try.func17 (by kernel_rfl) rfl #[.slice Ao12 x3_1.length co12, .string t135] rfl (by (try simp only [List.map_toArray, List.map_cons, List.map_nil]); first | done | rfl | (simp only [List.length_drop, List.length_take]; rfl)) ?_; (with_reducible refine (laws_hasName.calls k1 _ _ x3_1 t135 true _ ?side1 ?side2 A8.out).mono ?_); (case side1 => refine (Kd.R_reads' (e := 9) (base := w.heap.size) (ok := fun k_ => True) (n := x3_1.length) (c := co12) ?_).2.2; exact (by (with_reducible repeat (first | apply Kd.R_alloc | apply Kd.R_drewN | apply Kd.R_drew)); exact (Kd.R_mono (Kd.R_far (p := ⟨gb134, 4, none⟩) (Kd.R_far (p := ⟨gb134, 3, none⟩) (Kd.R_far (p := ⟨gb134, 2, none⟩) (Kd.R_far (p := ⟨gb134, 1, none⟩) (Kd.R_far (p := ⟨gb134, 0, none⟩) (Kd.R_types HO_3.out BK134.out (by decide)) (fun _ hk => hk.2) (.string ((rd_T35 l0 x10_1).f0))) (fun _ hk => hk.2) (.int .i64 ((rd_T35 l0 x10_1).f1))) (fun _ hk => hk.2) (.bool ((rd_T35 l0 x10_1).f2))) (fun _ hk => hk.2) (.slice A133_3 ((rd_T35 l0 x10_1).f3).length c133_3)) (fun _ hk => hk.2) (.int .i64 ((rd_T35 l0 x10_1).f4))) (fun _ h_ => h_.1)))); (case side2 => exact (Kd.R_reads' HO_3.out).2.1); rintro e w' ⟨rfl, ⟨nd, rfl⟩⟩; refine ⟨_, rfl, ?_⟩))
              go_roundg k1
              case measure => have := HK1.out; omega
              case rel => exact ⟨(x3_1), (wrap64 (x10_1 + 1)), (by first | rfl | (simp; done) | (simp [*]; done)), H', ⟨by have := HK1.out; omega⟩, ⟨by (with_reducible repeat (first | apply Kd.R_alloc | apply Kd.R_drewN | apply Kd.R_drew)); exact Kd.R_mono (Kd.R_far (p := ⟨gb134, 4, none⟩) (Kd.R_far (p := ⟨gb134, 3, none⟩) (Kd.R_far (p := ⟨gb134, 2, none⟩) (Kd.R_far (p := ⟨gb134, 1, none⟩) (Kd.R_far (p := ⟨gb134, 0, none⟩) (Kd.R_types HO_3.out BK134.out (by decide)) (fun _ hk => hk.2) (.string ((rd_T35 l0 x10_1).f0))) (fun _ hk => hk.2) (.int .i64 ((rd_T35 l0 x10_1).f1))) (fun _ hk => hk.2) (.bool ((rd_T35 l0 x10_1).f2))) (fun _ hk => hk.2) (.slice A133_3 ((rd_T35 l0 x10_1).f3).length c133_3)) (fun _ hk => hk.2) (.int .i64 ((rd_T35 l0 x10_1).f4))) (fun _ hk => trivial)⟩, ⟨by repeat (first | (with_reducible first | exact HB.out | apply below_alloc | apply pw_below_drewN | apply below_drew1 | refine below_set ?_ GE134.out) | exact HB.out)⟩⟩
            · replace c9 := Bool.eq_false_iff.mpr c9
              subst c9
              have H1 : (if x3_1.length < 8796093022208 then (laws_lastNames.l0 k1 (x3_1 ++ [t135]) l0 (l0.length : Int) (wrap64 (x10_1 + 1))) else (none)) = some r := by rw [if_neg (show ¬ (false = true) by decide)] at H; exact H
              clear H
              have H := H1
              clear H1
              by_cases c13 : x3_1.length < 8796093022208
              · rw [if_pos c13] at H
                have LMc13 := Aside0.mk c13
                clear c13
                obtain ⟨y137, hy137⟩ : ∃ y_ : List ByteArray, y_ = (x3_1 ++ [t135]) := ⟨_, rfl⟩
                replace H : (laws_lastNames.l0 k1 y137 l0 (l0.length : Int) (wrap64 (x10_1 + 1))) = some r := by first | (rw [hy137]; with_reducible exact H) | (have H2_ := (Option.bind_some _ _).symm.trans H; rw [hy137]; with_reducible exact H2_) | (have H2_ := (Option.bind_some _ _).symm.trans H; with_reducible exact H2_) | with_reducible exact H | (rw [hy137]; exact H) | exact H
                have Ny137 := Aside0.mk hy137
                clear hy137
                have H' := Aside0.mk H
                clear H
                have p133 : 0 ≤ (x10_1 : Int) := of_decide_eq_true (by first | (with_reducible assumption) | assumption)
                have q133 : x10_1 < (l0.length : Int) := of_decide_eq_true (by first | (with_reducible assumption) | assumption)
                obtain ⟨ad133, A133_3, c133_3, e133, hx133_0, hx133_1, hx133_2, hx133_3, hx133_4, hl133_3, hi133_3⟩ := at_T35 HR0.out x10_1 p133 q133
                cases e133
                replace hx133_0 := (HB.out.cell (World.block_lt_of_cell? w _ hx133_0)).trans hx133_0
                replace hx133_1 := (HB.out.cell (World.block_lt_of_cell? w _ hx133_1)).trans hx133_1
                replace hx133_2 := (HB.out.cell (World.block_lt_of_cell? w _ hx133_2)).trans hx133_2
                replace hx133_3 := (HB.out.cell (World.block_lt_of_cell? w _ hx133_3)).trans hx133_3
                replace hx133_4 := (HB.out.cell (World.block_lt_of_cell? w _ hx133_4)).trans hx133_4
                have HR133_3 := Aside0.mk hi133_3
                have HC133_3 := Aside0.mk hl133_3
                clear hi133_3 hl133_3
                replace p133 := eq_true p133
                replace q133 := eq_true q133
                go_wp2_with (first | ((with_reducible refine gate_dst (N := 5) rfl ?_); refine box_event ?hg (N := 5) ?hd (cs := #[.string (⟨#[]⟩ : ByteArray), .int .i64 0, .bool false, .slice none 0 0, .int .i64 0]) (t := 35) ?hr ?_; (case hd => rfl); (case hg => rfl); (case hr => first | (go_simp; done) | (go_simp; rfl)); intro gb134 hg w14 hbox hb; have n0_ := Aside0.mk (Kd.R_below (by (with_reducible repeat (first | apply Kd.R_alloc | apply Kd.R_drewN | apply Kd.R_drew)); exact HO_3.out) hb); have n1_ := Aside0.mk (below_step (by repeat (first | (with_reducible first | exact HB.out | apply below_alloc | apply pw_below_drewN | apply below_drew1) | exact HB.out)) hb); have n2_ := Aside0.mk (hbox); have n3_ := Aside0.mk ((by rw [hg]; exact (below_size (by repeat (first | (with_reducible first | exact HB.out | apply below_alloc | apply pw_below_drewN | apply below_drew1) | exact HB.out))) : w.heap.size ≤ gb134)); have n4_ := Aside0.mk ((by rw [hg]; exact (below_size (by repeat (first | (with_reducible first | exact HB.out | apply below_alloc | apply pw_below_drewN | apply below_drew1) | exact HB.out))) : w.heap.size ≤ gb134)); clear HO_3; clear HB; have HO_3 := n0_; have HB := n1_; have BK134 := n2_; have GW134 := n3_; have GE134 := n4_; clear n0_ n1_ n2_ n3_ n4_; clear hb hbox hg; have hcz15_0 : w14.cell? ⟨gb134, 0, none⟩ = some (.string (⟨#[]⟩ : ByteArray)) := (blk_cell BK134.out 0).trans rfl; have hcz15_1 : w14.cell? ⟨gb134, 1, none⟩ = some (.int .i64 0) := (blk_cell BK134.out 1).trans rfl; have hcz15_2 : w14.cell? ⟨gb134, 2, none⟩ = some (.bool false) := (blk_cell BK134.out 2).trans rfl; have hcz15_3 : w14.cell? ⟨gb134, 3, none⟩ = some (.slice none 0 0) := (blk_cell BK134.out 3).trans rfl; have hcz15_4 : w14.cell? ⟨gb134, 4, none⟩ = some (.int .i64 0) := (blk_cell BK134.out 4).trans rfl; have hfz15_0 := blk_frozen BK134.out 0; have hfz15_1 := blk_frozen BK134.out 1; have hfz15_2 := blk_frozen BK134.out 2; have hfz15_3 := blk_frozen BK134.out 3; have hfz15_4 := blk_frozen BK134.out 4) | ((with_reducible refine gate_callee (f := 16) rfl ?_); refine goesL_ (some 16) rfl rfl Try.func16 (by kernel_rfl) rfl #[.string ((rd_T35 l0 x10_1).f0)] rfl (by (try simp only [List.map_toArray, List.map_cons, List.map_nil]); first | done | rfl | (simp only [List.length_drop, List.length_take]; rfl)) ?_; (with_reducible refine (spec_MemBase.calls k1 ((rd_T35 l0 x10_1).f0) t135 _ A7.out).mono ?_); rintro e w' ⟨rfl, ⟨nd, rfl⟩⟩; refine ⟨_, rfl, ?_⟩; obtain ⟨Ao16, co16, eo16⟩ := Kd.R_slice HO_3.out; subst eo16) | ((with_reducible refine gate_callee (f := 17) rfl ?_); refine goesL_ (some 19) rfl rfl Try.func17 (by kernel_rfl) rfl #[.slice Ao16 x3_1.length co16, .string t135] rfl (by (try simp only [List.map_toArray, List.map_cons, List.map_nil]); first | done | rfl | (simp only [List.length_drop, List.length_take]; rfl)) ?_; (with_reducible refine (laws_hasName.calls k1 _ _ x3_1 t135 false _ ?side1 ?side2 A8.out).mono ?_); (case side1 => refine (Kd.R_reads' (e := 9) (base := w.heap.size) (ok := fun k_ => True) (n := x3_1.length) (c := co16) ?_).2.2; exact (by (with_reducible repeat (first | apply Kd.R_alloc | apply Kd.R_drewN | apply Kd.R_drew)); exact (Kd.R_mono (Kd.R_far (p := ⟨gb134, 4, none⟩) (Kd.R_far (p := ⟨gb134, 3, none⟩) (Kd.R_far (p := ⟨gb134, 2, none⟩) (Kd.R_far (p := ⟨gb134, 1, none⟩) (Kd.R_far (p := ⟨gb134, 0, none⟩) (Kd.R_types HO_3.out BK134.out (by decide)) (fun _ hk => hk.2) (.string ((rd_T35 l0 x10_1).f0))) (fun _ hk => hk.2) (.int .i64 ((rd_T35 l0 x10_1).f1))) (fun _ hk => hk.2) (.bool ((rd_T35 l0 x10_1).f2))) (fun _ hk => hk.2) (.slice A133_3 ((rd_T35 l0 x10_1).f3).length c133_3)) (fun _ hk => hk.2) (.int .i64 ((rd_T35 l0 x10_1).f4))) (fun _ h_ => h_.1)))); (case side2 => exact (Kd.R_reads' HO_3.out).2.1); rintro e w' ⟨rfl, ⟨nd, rfl⟩⟩; refine ⟨_, rfl, ?_⟩) | ((with_reducible refine gate_builtin (b := .append) (xs := #[.tmp 21, .tmp 23]) rfl ?_); at_builtin; refine Kd.R_append Kd.string (w0 := w) w.heap.size rfl (.tmp 21) (.tmp 23) 26 9 (.string ⟨#[]⟩) 16 rfl Try.underlying26 info9 rfl (by decide) (by omega) (.slice Ao16 x3_1.length co16) x3_1 t135 [.string t135] (fun _ => True) (fun _ => False) rfl (by first | (go_simp; done) | (go_simp; rfl)) ?aP (fun _ hk => hk.elim) ?aF ?aO ?aB ?aS ?aL ?_; (case aP => exact rfl); (case aB => exact (by repeat (first | (with_reducible first | exact HB.out | apply below_alloc | apply pw_below_drewN | apply below_drew1 | refine below_set ?_ GE134.out) | exact HB.out))); (case aF => exact (fun _ _ => trivial)); (case aO => exact (by (with_reducible repeat (first | apply Kd.R_alloc | apply Kd.R_drewN | apply Kd.R_drew)); exact Kd.R_mono (Kd.R_far (p := ⟨gb134, 4, none⟩) (Kd.R_far (p := ⟨gb134, 3, none⟩) (Kd.R_far (p := ⟨gb134, 2, none⟩) (Kd.R_far (p := ⟨gb134, 1, none⟩) (Kd.R_far (p := ⟨gb134, 0, none⟩) (Kd.R_types HO_3.out BK134.out (by decide)) (fun _ hk => hk.2) (.string ((rd_T35 l0 x10_1).f0))) (fun _ hk => hk.2) (.int .i64 ((rd_T35 l0 x10_1).f1))) (fun _ hk => hk.2) (.bool ((rd_T35 l0 x10_1).f2))) (fun _ hk => hk.2) (.slice A133_3 ((rd_T35 l0 x10_1).f3).length c133_3)) (fun _ hk => hk.2) (.int .i64 ((rd_T35 l0 x10_1).f4))) (fun _ hk => trivial))); (case aS => exact (below_size (by repeat (first | (with_reducible first | exact HB.out | apply below_alloc | apply pw_below_drewN | apply below_drew1 | refine below_set ?_ GE134.out) | exact HB.out)))); (case aL => have := LMc13.out; omega); intro v138 w17 ho hb hg hat; rw [← Ny137.out] at ho; have n0_ := Aside0.mk (blk_grown (g := gb134) (o := .cells #[.string ((rd_T35 l0 x10_1).f0), .int .i64 ((rd_T35 l0 x10_1).f1), .bool ((rd_T35 l0 x10_1).f2), .slice A133_3 ((rd_T35 l0 x10_1).f3).length c133_3, .int .i64 ((rd_T35 l0 x10_1).f4)] 35 (0, 0)) (by (with_reducible repeat (first | refine blk_drewN ?_ _ | refine blk_drew ?_ | refine blk_alloc ?_ _)); refine blk_put (cs := #[.string ((rd_T35 l0 x10_1).f0), .int .i64 ((rd_T35 l0 x10_1).f1), .bool ((rd_T35 l0 x10_1).f2), .slice A133_3 ((rd_T35 l0 x10_1).f3).length c133_3, .int .i64 0]) ?_ 4 _ rfl; (with_reducible repeat (first | refine blk_drewN ?_ _ | refine blk_drew ?_ | refine blk_alloc ?_ _)); refine blk_put (cs := #[.string ((rd_T35 l0 x10_1).f0), .int .i64 ((rd_T35 l0 x10_1).f1), .bool ((rd_T35 l0 x10_1).f2), .slice none 0 0, .int .i64 0]) ?_ 3 _ rfl; (with_reducible repeat (first | refine blk_drewN ?_ _ | refine blk_drew ?_ | refine blk_alloc ?_ _)); refine blk_put (cs := #[.string ((rd_T35 l0 x10_1).f0), .int .i64 ((rd_T35 l0 x10_1).f1), .bool false, .slice none 0 0, .int .i64 0]) ?_ 2 _ rfl; (with_reducible repeat (first | refine blk_drewN ?_ _ | refine blk_drew ?_ | refine blk_alloc ?_ _)); refine blk_put (cs := #[.string ((rd_T35 l0 x10_1).f0), .int .i64 0, .bool false, .slice none 0 0, .int .i64 0]) ?_ 1 _ rfl; (with_reducible repeat (first | refine blk_drewN ?_ _ | refine blk_drew ?_ | refine blk_alloc ?_ _)); refine blk_put (cs := #[.string (⟨#[]⟩ : ByteArray), .int .i64 0, .bool false, .slice none 0 0, .int .i64 0]) ?_ 0 _ rfl; (with_reducible repeat (first | refine blk_drewN ?_ _ | refine blk_drew ?_ | refine blk_alloc ?_ _)); exact BK134.out) hg (Kd.R_ne HO_3.out BK134.out (by decide))); have n1_ := Aside0.mk (hb); have n2_ := Aside0.mk (ho); clear BK134; clear HB; clear HO_3; have BK134 := n0_; have HB := n1_; have HO139 := n2_; clear n0_ n1_ n2_; clear ho hb hg hat))
                go_roundg k1
                case measure => have := HK1.out; omega
                case rel => exact ⟨(y137), (wrap64 (x10_1 + 1)), (by first | rfl | (simp; done) | (simp [*]; done)), H', ⟨by have := HK1.out; omega⟩, ⟨by (with_reducible repeat (first | apply Kd.R_alloc | apply Kd.R_drewN | apply Kd.R_drew)); exact HO139.out⟩, ⟨by repeat (first | (with_reducible first | exact HB.out | apply below_alloc | apply pw_below_drewN | apply below_drew1 | refine below_set ?_ GE134.out) | exact HB.out)⟩⟩
              · rw [if_neg c13] at H
                exact absurd H (by simp)
          · rw [if_neg c6] at H
            exact absurd H (by simp)
        · rw [if_neg c5] at H
          exact absurd H (by simp)
      · rw [if_neg c4] at H
        have c4b0 : decide (x10_1 < (l0.length : Int)) = false := decide_eq_false c4
        clear c4
        obtain rfl := Option.some.inj H
        go_wp2
        go_ret
        exact ⟨_, by first | rfl | (simp [errW_none, errW_some] <;> rfl) | (simp [*, errW_none, errW_some] <;> rfl), by (with_reducible repeat (first | apply Kd.R_alloc | apply Kd.R_drewN | apply Kd.R_drew)); exact HO_3.out, by repeat (first | (with_reducible first | exact HB.out | apply below_alloc | apply pw_below_drewN | apply below_drew1) | exact HB.out)⟩

-- NOT PRINTED: function 3 (laws_FnMergeCounts)

end Go.Proofs.Ytfanlhkpblemgaa.PFnMergeCounts
