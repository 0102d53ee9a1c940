/- FnAttributesFit: the walk of DoorFit. -/
import Derived.Test.YtjpahogldfmaeabDoorAhWalk
namespace Go.Proofs.YtjpahogldfmaeabDoor
open Go.ChangeShapes Go.WideShapes Go.ChangeAt Go.RowKit Go.Rd
open Go.Proofs.YtjpahogldfmaeabDoorW.PrintWords Go.Proofs.YtjpahogldfmaeabDoorW.PrintLast Go.Proofs.YtjpahogldfmaeabDoorW.PrintMore
open PFnAttributesFit (S34 S47 k34 k47 rd_T34 at_T34 info5 z34 at_L2 rd_L2)

/-- What an attribute wants. -/
def roomOf (s : ByteArray) (v : List Int) : Nat := up4 (pick s prefs).2.size + 16 + up4 v.length
/-- The greedy fit: the places of those inside, of those in the block, and whether all fit. -/
def fitFrom : List Nat → Nat → Int → Int → List Int → List Int → List Int × List Int × Bool
  | [], _, _, _, I, O => (I, O, true)
  | r :: rs, i, x, y, I, O => if (r : Int) ≤ x then fitFrom rs (i + 1) (x - r) y (I ++ [(i : Int)]) O else if (r : Int) ≤ y then fitFrom rs (i + 1) x (y - r) I (O ++ [(i : Int)]) else (I, O, false)
def roomsOf (N : List ByteArray) (V : List (List Int)) : List Nat := List.zipWith roomOf N V

theorem info3' : (Tryd.prog.info? 3).map (fun i => (i.zero, i.size, i.bytes)) = some (some (.int .i64 0), 1, 8) := by kernel_rfl

/-- The frame's state in a round: the state block and its rows, and the two rows of places. -/
def FitRel (w : World) (N : List ByteArray) (V : List (List Int)) (R : List Int × List Int × Bool) (v4 v5 : Value) (k : Nat) (wr : World) : Prop :=
  ∃ (I O : List Int) (x y : Int), Hid (fitFrom ((roomsOf N V).drop k) k x y I O = R) ∧ I.length + O.length ≤ k ∧ x ≤ 96 ∧ y ≤ 4060 ∧ XState wr w.heap.size I.length O.length x y ∧
    Kd.R (Kd.int .i64) 3 wr w.heap.size (fun j => some j ≠ v5.ownBlock) v4 I ∧ Kd.R (Kd.int .i64) 3 wr w.heap.size (fun j => some j ≠ v4.ownBlock) v5 O ∧ Below w.heap.size w wr

theorem x_cell0 {wr : World} {b n0 n1 : Nat} {x y : Int} (h : XState wr b n0 n1 x y) : ∃ A c, wr.cell? ⟨b, 0, none⟩ = some (.slice A n0 c) := by
  obtain ⟨v0, v1, xs0, xs1, hst, hown0, _⟩ := h
  obtain ⟨A, c, rfl⟩ := own_slice hown0
  exact ⟨A, c, (cell_of hst 0).trans rfl⟩

theorem XState.keep {T : TypeId → Prop} {w w' : World} {b n0 n1 : Nat} {x y : Int} (h : XState w b n0 n1 x y) (hk : KeepT T w w') (h1 : ¬ T 55) (h2 : ¬ T 61) : XState w' b n0 n1 x y := by
  obtain ⟨v0, v1, xs0, xs1, hst, ho0, ho1, hne⟩ := h
  exact ⟨v0, v1, xs0, xs1, hk _ _ _ _ hst h1, own_keepT ho0 hk h2, own_keepT ho1 hk h2, hne⟩
theorem no_XT (q : Nat) (h : q ∈ 3 :: (Kd.int .i64).E) : ¬ XT q := by
  have : q = 3 := by simpa [Kd.int, Kd.scalar] using h
  subst this
  unfold XT; decide

theorem fit_step {N : List ByteArray} {V : List (List Int)} {k : Nat} (hk : k < N.length) (hv : V.length = N.length) : (roomsOf N V).drop k = roomOf N[k] (V[k]'(by omega)) :: (roomsOf N V).drop (k + 1) := by
  rw [List.drop_eq_getElem_cons (by simp [roomsOf]; omega)]
  simp [roomsOf]

theorem init_any (b : Nat) (w : World) (v0 v1 x y : Value) (h : w.heap[b]? = some (.cells #[v0, v1, x, y] 55 (0, 0))) :
    Calls Tryd.prog 19 #[.pointer (some ⟨b, 0, none⟩)] w fun e w' => e = .returned (.tuple #[]) ∧ w'.heap[b]? = some (.cells #[v0, v1, .int .i64 96, .int .i64 4060] 55 (0, 0)) ∧ Below b w w' := by
  have f2 := free_of h 2
  have c2 := (cell_of h 2).trans rfl
  have h2 := Go.Rd.heap_setCell_same (o := 2) h (.int .i64 96)
  have f3 := free_of h2 3
  have c3 := (cell_of h2 3).trans rfl
  go_enter Tryd.func19, Tryd.ntmps19
  go_wp2
  go_end0
  exact ⟨rfl, Go.Rd.heap_setCell_same (o := 3) h2 _, ((Below.refl _ _).setCell (Nat.le_refl b) _).setCell (Nat.le_refl b) _⟩

set_option maxHeartbeats 2000000 in
theorem fit_any (A : Option Addr) (c : Nat) (N : List ByteArray) (A' : Option Addr) (c' : Nat) (V : List (List Int)) (w : World) (hN : Kd.C Kd.string w A N.length N) (hV : Kd.C (Kd.slice 5 (Kd.int .u8)) w A' V.length V)
    (hl : Hid (V.length = N.length)) (hn : N.length ≤ 40) (hb : Hid (∀ s ∈ N, s.size ≤ maxLen ∧ (pick s prefs).2.size ≤ 2147483647)) (hb2 : Hid (∀ v ∈ V, v.length ≤ 4096)) (ty : TypeId) (fr : Nat × Nat) (hT : w.heap[0]? = some (.cells tab ty fr))
    (R : List Int × List Int × Bool) (hR : Hid (fitFrom (roomsOf N V) 0 96 4060 [] [] = R)) :
    Calls Tryd.prog 14 #[.slice A N.length c, .slice A' V.length c'] w fun e w' => ∃ v v', e = .returned (.tuple #[v, v', .bool R.2.2]) ∧ Kd.R (Kd.int .i64) 3 w' w.heap.size (fun _ => True) v R.1 ∧ Kd.R (Kd.int .i64) 3 w' w.heap.size (fun _ => True) v' R.2.1 ∧ Below w.heap.size w w' := by
  go_enter Tryd.func14, Tryd.ntmps14
  go_wp2_with (go_at_call 19; refine (init_any w.heap.size _ _ _ _ _ (alloc_new _ _)).mono ?_; rintro e w1 ⟨rfl, hs1, hb1⟩)
  have hB1 : Below w.heap.size w w1 := ((Below.refl _ _).alloc (Nat.le_refl _) _).trans hb1
  have hX1 : XState w1 w.heap.size 0 0 96 4060 := ⟨_, _, [], [], hs1, World.ownsRow_nil _ _ _ _, World.ownsRow_nil _ _ _ _, .inl rfl⟩
  go_loopw [4, 5, 14] (fun v4 v5 i wr => ∃ k : Nat, k ≤ N.length ∧ i = .int .i64 k ∧ FitRel w N V R v4 v5 k wr) (fun _ _ i _ => N.length - (intOf i).toNat)
  case atStart => exact ⟨0, Nat.zero_le _, rfl, [], [], 96, 4060, hR, by simp, by omega, by omega, hX1, Kd.R_nil _ _ _ _ _, Kd.R_nil _ _ _ _ _, hB1⟩
  case round =>
    obtain ⟨k, hk, rfl, I, O, x, y, hF, hIO, hx, hy, hX, hR4, hR5, hB⟩ := hrel
    by_cases hlt : k < N.length
    · have hlv : k < V.length := by have := hl.out; omega
      obtain ⟨ad, hA, hx0⟩ := C_cell hN k hlt
      obtain ⟨ad', A1, c1, hA', hx1, hl1, hC1⟩ := at_L2 hV (k : Int) (by omega) (by omega)
      subst hA hA'
      have hrd : rd_L2 V (k : Int) = V[k] := getD_at V [] k hlv
      rw [hrd, Int.toNat_natCast] at hx1
      clear hrd hl1 hC1
      have hx0' := (hB.cell (World.block_lt_of_cell? w _ hx0)).trans hx0
      have hx1' := (hB.cell (World.block_lt_of_cell? w _ hx1)).trans hx1
      have hT' : wr.heap[0]? = some (.cells tab ty fr) := (hB.block 0 (lt_of_heap hT)).trans hT
      obtain ⟨hs1, hs2⟩ := hb.out N[k] (List.getElem_mem hlt)
      have hs3 := hb2.out V[k] (List.getElem_mem hlv)
      obtain ⟨Ax, cx, hcx⟩ := x_cell0 hX
      have hF2 := hF.out
      rw [fit_step hlt hl.out] at hF2
      have hF3 := Lib.hid hF2
      have hP : Hid (pick N[k] prefs = pick N[k] prefs) := rfl
      clear hF hF2
      by_cases h1 : (roomOf N[k] V[k] : Int) ≤ x
      · have hfit : ((up4 (pick N[k] prefs).2.size + 16 + up4 V[k].length : Nat) : Int) ≤ x := h1
        go_wp2_with (first
          | (go_at_call 20; refine (add_inode w.heap.size I.length O.length x y N[k] A1 V[k].length c1 _ hs1 _ hP hs2 (by omega) ty fr hT' hX hfit (by omega) (by omega)).mono ?_; rintro e w2 ⟨rfl, hX2, hbb, hkt⟩; obtain ⟨Ay, cy, hcy⟩ := x_cell0 hX2; have hR4k := R_keepT hR4 hkt no_XT; have hR5k := R_keepT hR5 hkt no_XT; have hBk := hB.trans hbb)
          | (at_builtin; refine Kd.R_append (Kd.int .i64) (w0 := w) w.heap.size rfl (.tmp 36) (.tmp 38) 43 3 (.int .i64 0) 8 rfl Tryd.underlying43 info3' rfl (by decide) (by decide) u4 I (k : Int) [.int .i64 (k : Int)] (fun j => some j ≠ u5.ownBlock) (fun _ => False) rfl (by simp [Act.eval]) rfl (fun _ h => h.elim) (R_fresh hR5k) hR4k hBk hBk.size (by omega) ?_; intro v1 w3 hR4' hB3 hg hat; have hR5' := R_other hR5k hg hat; have hX3 := hX2.keep (KeepT.grown_own (T := fun t => t = 3) (KeepT.refl _ _) (Kd.R_own hR4k).choose_spec rfl hg) (by decide) (by decide)))
        go_roundw
        case rel =>
          have hF4 := hF3.out
          simp only [fitFrom] at hF4
          rw [if_pos h1] at hF4
          refine ⟨k + 1, by omega, by go_num, I ++ [(k : Int)], O, _, y, hF4, by simp; omega, ?_, hy, ?_, hR4', hR5', hB3⟩
          · omega
          · rw [List.length_append]
            exact hX3
        case measure => simp [intOf]; omega
      · have hno : x < ((up4 (pick N[k] prefs).2.size + 16 + up4 V[k].length : Nat) : Int) := by
          have := h1
          unfold roomOf at this
          omega
        by_cases h2 : (roomOf N[k] V[k] : Int) ≤ y
        · have hfit : ((up4 (pick N[k] prefs).2.size + 16 + up4 V[k].length : Nat) : Int) ≤ y := h2
          go_wp2_with (first
            | (go_at_call 20; refine (add_block w.heap.size I.length O.length x y N[k] A1 V[k].length c1 _ hs1 _ hP hs2 (by omega) ty fr hT' hX hno hfit (by omega) (by omega)).mono ?_; rintro e w2 ⟨rfl, hX2, hbb, hkt⟩; obtain ⟨Ay, cy, hcy⟩ := x_cell0 hX2; have hR4k := R_keepT hR4 hkt no_XT; have hR5k := R_keepT hR5 hkt no_XT; have hBk := hB.trans hbb)
            | (at_builtin; refine Kd.R_append (Kd.int .i64) (w0 := w) w.heap.size rfl (.tmp 40) (.tmp 42) 43 3 (.int .i64 0) 8 rfl Tryd.underlying43 info3' rfl (by decide) (by decide) u5 O (k : Int) [.int .i64 (k : Int)] (fun j => some j ≠ u4.ownBlock) (fun _ => False) rfl (by simp [Act.eval]) rfl (fun _ h => h.elim) (R_fresh hR4k) hR5k hBk hBk.size (by omega) ?_; intro v1 w3 hR5' hB3 hg hat; have hR4' := R_other hR4k hg hat; have hX3 := hX2.keep (KeepT.grown_own (T := fun t => t = 3) (KeepT.refl _ _) (Kd.R_own hR5k).choose_spec rfl hg) (by decide) (by decide)))
          go_roundw
          case rel =>
            have hF4 := hF3.out
            simp only [fitFrom] at hF4
            rw [if_neg (Int.not_le.2 h1), if_pos h2] at hF4
            refine ⟨k + 1, by omega, by go_num, I, O ++ [(k : Int)], x, _, hF4, by simp; omega, hx, ?_, ?_, hR4', hR5', hB3⟩
            · omega
            · rw [List.length_append]
              exact hX3
          case measure => simp [intOf]; omega
        · have hno2 : y < ((up4 (pick N[k] prefs).2.size + 16 + up4 V[k].length : Nat) : Int) := by
            have := h2
            unfold roomOf at this
            omega
          have hF4 := hF3.out
          simp only [fitFrom] at hF4
          rw [if_neg h1, if_neg h2] at hF4
          subst hF4
          go_wp2_with (first
            | (go_at_call 20; refine (add_none w.heap.size I.length O.length x y N[k] A1 V[k].length c1 _ hs1 _ hP hs2 (by omega) ty fr hT' hX hno hno2).mono ?_; rintro e w2 ⟨rfl, hbb⟩))
          go_ret3
          exact ⟨_, _, rfl, R_any (Kd.R_below hR4 hbb), R_any (Kd.R_below hR5 hbb), hB.trans (hbb.mono hB.size)⟩
    · obtain rfl : k = N.length := by omega
      have hF2 := hF.out
      rw [List.drop_eq_nil_of_le (by simp [roomsOf]; omega)] at hF2
      simp only [fitFrom] at hF2
      subst hF2
      go_wp2
      go_ret3
      exact ⟨_, _, rfl, R_any hR4, R_any hR5, hB⟩
end Go.Proofs.YtjpahogldfmaeabDoor
