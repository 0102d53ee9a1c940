/- FnAttributesFit: the walks of FitXattrs and sameAttributes. -/
import Derived.Test.YtjpahogldfmaeabDoorAiWalk
namespace Go.Proofs.YtjpahogldfmaeabDoor
open Go.ChangeShapes Go.WideShapes Go.ChangeAt Go.RowKit Go.Rd
open Go.Proofs.YtjpahogldfmaeabDoorW.PrintWords Go.Proofs.YtjpahogldfmaeabDoorW.PrintLast Go.Proofs.YtjpahogldfmaeabDoorW.PrintMore
open PFnAttributesFit (S34 S47 k34 k47 rd_T34 at_T34 rd_T47 at_T47 info5 z34 z47 at_L2 rd_L2 k34_mk info34)

/-- Where the places of a fit lie. -/
theorem fit_range : ∀ (rs : List Nat) (i : Nat) (x y : Int) (I O : List Int) (m : Nat), i + rs.length ≤ m → (∀ j ∈ I, 0 ≤ j ∧ j < m) → (∀ j ∈ O, 0 ≤ j ∧ j < m) →
    (∀ j ∈ (fitFrom rs i x y I O).1, 0 ≤ j ∧ j < m) ∧ ∀ j ∈ (fitFrom rs i x y I O).2.1, 0 ≤ j ∧ j < m
  | [], _, _, _, I, O, m, _, hI, hO => ⟨hI, hO⟩
  | r :: rs, i, x, y, I, O, m, hm, hI, hO => by
    simp only [List.length_cons] at hm
    simp only [fitFrom]
    split
    · exact fit_range rs _ _ _ _ _ m (by omega) (fun j hj => by
        rcases List.mem_append.1 hj with h | h
        · exact hI j h
        · rw [List.mem_singleton.1 h]; omega) hO
    · split
      · exact fit_range rs _ _ _ _ _ m (by omega) hI (fun j hj => by
          rcases List.mem_append.1 hj with h | h
          · exact hO j h
          · rw [List.mem_singleton.1 h]; omega)
      · exact ⟨hI, hO⟩
theorem fit_len : ∀ (rs : List Nat) (i : Nat) (x y : Int) (I O : List Int), (fitFrom rs i x y I O).1.length + (fitFrom rs i x y I O).2.1.length ≤ I.length + O.length + rs.length
  | [], _, _, _, I, O => by simp [fitFrom]
  | r :: rs, i, x, y, I, O => by
    simp only [fitFrom]
    split
    · have := fit_len rs (i + 1) (x - r) y (I ++ [(i : Int)]) O
      simp at this ⊢; omega
    · split
      · have := fit_len rs (i + 1) x (y - r) I (O ++ [(i : Int)])
        simp at this ⊢; omega
      · simp

set_option maxHeartbeats 2000000 in
theorem fitX_any (A0 : Option Addr) (c0 : Nat) (l0 : List S34) (w : World) (hr0 : Kd.C k34 w A0 l0.length l0) (hn : l0.length ≤ 40) (hv : Hid (∀ x ∈ l0, x.f1.length ≤ 4096))
    (hb : Hid (∀ x ∈ l0, x.f0.size ≤ maxLen ∧ (pick x.f0 prefs).2.size ≤ 2147483647)) (ty : TypeId) (fr : Nat × Nat) (hT : w.heap[0]? = some (.cells tab ty fr))
    (R : List Int × List Int × Bool) (hR : Hid (fitFrom (roomsOf (l0.map (·.f0)) (l0.map (·.f1))) 0 96 4060 [] [] = R)) :
    Calls Tryd.prog 6 #[.slice A0 l0.length c0] w fun e w' => ∃ v v', e = .returned (.tuple #[v, v', .bool R.2.2]) ∧ OwnRow (k34.K w) 34 2 w' w.heap.size v (R.1.map (rd_T34 l0)) ∧ OwnRow (k34.K w) 34 2 w' w.heap.size v' (R.2.1.map (rd_T34 l0)) ∧ Below w.heap.size w w' := by
  have hrg := fit_range (roomsOf (l0.map (·.f0)) (l0.map (·.f1))) 0 96 4060 [] [] l0.length (by simp [roomsOf]) (by simp) (by simp)
  have hle := fit_len (roomsOf (l0.map (·.f0)) (l0.map (·.f1))) 0 96 4060 [] []
  rw [hR.out] at hrg hle
  have hle1 : R.1.length ≤ 40 ∧ R.2.1.length ≤ 40 := by
    simp only [roomsOf, List.length_zipWith, List.length_map, List.length_nil] at hle
    omega
  have hRg := Lib.hid hrg
  clear hrg hle
  obtain ⟨hle1, hle2⟩ := hle1
  obtain ⟨N, eN⟩ : ∃ N, l0.map (·.f0) = N := ⟨_, rfl⟩
  obtain ⟨V, eV⟩ : ∃ V, l0.map (·.f1) = V := ⟨_, rfl⟩
  have hbN : Hid (∀ s ∈ N, s.size ≤ maxLen ∧ (pick s prefs).2.size ≤ 2147483647) := by subst eN; simpa [Hid] using hb.out
  have hbV : Hid (∀ v ∈ V, v.length ≤ 4096) := by subst eV; simpa [Hid] using hv.out
  have hLL : Hid (V.length = N.length) := by subst eN eV; simp [Hid]
  have hnN : N.length ≤ 40 := by subst eN; simpa using hn
  rw [eN, eV] at hR
  have EN := Lib.hid eN
  have EV := Lib.hid eV
  clear eN eV
  go_enter Tryd.func6, Tryd.ntmps6
  go_wp2_with (first
    | (go_at_call 13; refine (split_any A0 c0 l0 w hr0 hn hv).mono ?_; rintro e w1 ⟨v, v', rfl, hN, hV, hb1⟩; rw [EN.out] at hN; rw [EV.out] at hV; obtain ⟨AN, cN, eN, hlN, hCN⟩ := Kd.R_reads hN; obtain ⟨AV, cV, eV, hlV, hCV⟩ := Kd.R_reads hV; subst eN eV)
    | (go_at_call 14; refine (fit_any AN cN N AV cV V w1 hCN hCV hLL hnN hbN hbV ty fr ((hb1.block 0 (lt_of_heap hT)).trans hT) R hR).mono ?_; rintro e w2 ⟨u, u', rfl, hI, hO, hb2⟩; obtain ⟨AI, cI, eI, hlI, hCI⟩ := Kd.R_reads hI; obtain ⟨AO, cO, eO, hlO, hCO⟩ := Kd.R_reads hO; subst eI eO; have hB2 := hb1.trans (hb2.mono hb1.size)))
  go_loopw [2, 28] (fun v2 i wr => ∃ k : Nat, k ≤ R.1.length ∧ i = .int .i64 k ∧ OwnRow (k34.K w) 34 2 wr w2.heap.size v2 ((R.1.take k).map (rd_T34 l0)) ∧ Below w2.heap.size w2 wr) (fun _ i _ => R.1.length - (intOf i).toNat)
  case atStart => exact ⟨0, Nat.zero_le _, rfl, OwnRow.none_ _ _ _ _ _, Below.refl _ _⟩
  case round =>
    obtain ⟨k, hk, rfl, hO2, hB⟩ := hrel
    by_cases hlt : k < R.1.length
    · obtain ⟨adI, hA, hx0⟩ := C_cell hCI k hlt
      subst hA
      have hx0' := (hB.cell (World.block_lt_of_cell? w2 _ hx0)).trans hx0
      obtain ⟨hi0, hi1⟩ := hRg.out.1 R.1[k] (List.getElem_mem hlt)
      obtain ⟨ad, A1, c1, hA, hy0, hy1, hl1, hC1⟩ := at_T34 hr0 R.1[k] hi0 hi1
      subst hA
      have hBw := hB2.trans (hB.mono hB2.size)
      have hy0' := (hBw.cell (World.block_lt_of_cell? w _ hy0)).trans hy0
      have hy1' := (hBw.cell (World.block_lt_of_cell? w _ hy1)).trans hy1
      go_wp2_with (at_builtin; refine OwnRow.append (w0 := w2) (R := k34.K w) w2.heap.size rfl (.tmp 32) (.tmp 37) 22 34 (.agg #[.string ⟨#[]⟩, .slice none 0 0]) 2 40 rfl Tryd.underlying22 info34 rfl (by decide) (by decide) u2 _ (rd_T34 l0 R.1[k]) [.string (rd_T34 l0 R.1[k]).f0, .slice A1 (rd_T34 l0 R.1[k]).f1.length c1] rfl (by simp [Act.eval]) (k34_mk w _ hl1 hC1) rfl (by intro u hu; simp at hu; rcases hu with rfl | rfl <;> rfl) hO2 hB hB.size (by simp; omega) ?_; intro v1 w3 hO2' hB3 hg1 hat1)
      go_roundw
      case rel =>
        rw [← take_snoc_map _ _ _ hlt] at hO2'
        exact ⟨k + 1, by omega, by go_num, hO2', hB3⟩
      case measure => simp [intOf]; omega
    · obtain rfl : k = R.1.length := by omega
      rw [List.take_length] at hO2
      obtain ⟨wo, rfl⟩ : ∃ wo : World, wo = wr := ⟨_, rfl⟩
      go_wp2
      go_loopw [3, 42] (fun v3 i wr => ∃ k : Nat, k ≤ R.2.1.length ∧ i = .int .i64 k ∧ OwnRow (k34.K w) 34 2 wr wo.heap.size v3 ((R.2.1.take k).map (rd_T34 l0)) ∧ Below wo.heap.size wo wr) (fun _ i _ => R.2.1.length - (intOf i).toNat)
      case atStart => exact ⟨0, Nat.zero_le _, rfl, OwnRow.none_ _ _ _ _ _, Below.refl _ _⟩
      case round =>
        obtain ⟨k, hk, rfl, hO3, hC⟩ := hrel
        have hBw := hB2.trans (hB.mono hB2.size)
        have hBr := hBw.trans (hC.mono hBw.size)
        by_cases hlt : k < R.2.1.length
        · obtain ⟨adI, hA, hx0⟩ := C_cell (Kd.C_below (Kd.C_below hCO hB) hC) k hlt
          subst hA
          obtain ⟨hi0, hi1⟩ := hRg.out.2 R.2.1[k] (List.getElem_mem hlt)
          obtain ⟨ad, A1, c1, hA, hy0, hy1, hl1, hC1⟩ := at_T34 hr0 R.2.1[k] hi0 hi1
          subst hA
          have hy0' := (hBr.cell (World.block_lt_of_cell? w _ hy0)).trans hy0
          have hy1' := (hBr.cell (World.block_lt_of_cell? w _ hy1)).trans hy1
          go_wp2_with (at_builtin; refine OwnRow.append (w0 := wo) (R := k34.K w) wo.heap.size rfl (.tmp 46) (.tmp 51) 22 34 (.agg #[.string ⟨#[]⟩, .slice none 0 0]) 2 40 rfl Tryd.underlying22 info34 rfl (by decide) (by decide) u3 _ (rd_T34 l0 R.2.1[k]) [.string (rd_T34 l0 R.2.1[k]).f0, .slice A1 (rd_T34 l0 R.2.1[k]).f1.length c1] rfl (by simp [Act.eval]) (k34_mk w _ hl1 hC1) rfl (by intro u hu; simp at hu; rcases hu with rfl | rfl <;> rfl) hO3 hC hC.size (by simp; omega) ?_; intro v1 w3 hO3' hB3 hg1 hat1)
          go_roundw
          case rel =>
            rw [← take_snoc_map _ _ _ hlt] at hO3'
            exact ⟨k + 1, by omega, by go_num, hO3', hB3⟩
          case measure => simp [intOf]; omega
        · obtain rfl : k = R.2.1.length := by omega
          rw [List.take_length] at hO3
          go_wp2
          go_ret3
          exact ⟨_, _, rfl, OwnRow.lower (OwnRow.below hO2 hC) hB2.size, OwnRow.lower hO3 hBw.size, hBr⟩
/-- An attribute of the one package as one of the other. -/
def to47 (x : S34) : S47 := ⟨x.f0, x.f1⟩
theorem same_size (n : Nat) : ((n : Int) != (n : Int)) = false := by simp

set_option maxHeartbeats 2000000 in
theorem same_any (A : Option Addr) (c : Nat) (A' : Option Addr) (c' : Nat) (xs : List S34) (w : World) (hx : Kd.C k34 w A xs.length xs) (hy : Kd.C k47 w A' xs.length (xs.map to47)) (hn : xs.length ≤ 1000000) :
    Calls Tryd.prog 10 #[.slice A xs.length c, .slice A' xs.length c'] w fun e w' => e = .returned (.bool true) ∧ Below w.heap.size w w' := by
  have hs := same_size xs.length
  go_enter Tryd.func10, Tryd.ntmps10
  go_wp2
  clear hs
  go_loopw [13] (fun i wr => ∃ k : Nat, k ≤ xs.length ∧ i = .int .i64 k ∧ ∃ m, wr = w.drewN m) (fun i _ => xs.length - (intOf i).toNat)
  case atStart => exact ⟨0, Nat.zero_le _, rfl, 0, rfl⟩
  case round =>
    obtain ⟨k, hk, rfl, m, rfl⟩ := hrel
    by_cases hlt : k < xs.length
    · obtain ⟨ad, A1, c1, hA, hx0, hx1, hl1, hC1⟩ := at_T34 hx (k : Int) (by omega) (by omega)
      obtain ⟨ad', A1', c1', hA', hy0, hy1, hl1', hC1'⟩ := at_T47 hy (k : Int) (by omega) (by omega)
      subst hA hA'
      have hr1 : rd_T34 xs (k : Int) = xs[k] := getD_at xs z34 k hlt
      have hr2 : rd_T47 (xs.map to47) (k : Int) = to47 xs[k] := by
        have := getD_at (xs.map to47) z47 k (by simpa using hlt)
        rw [List.getElem_map] at this
        exact this
      rw [hr1] at hx0 hx1 hC1
      rw [hr2] at hy0 hy1 hC1'
      rw [Int.toNat_natCast] at hx0 hx1 hy0 hy1
      have e1 : (to47 xs[k]).f0 = xs[k].f0 := rfl
      have e2 : (to47 xs[k]).f1 = xs[k].f1 := rfl
      rw [e1] at hy0
      rw [e2] at hy1 hC1'
      clear e1 e2 hr1 hr2 hl1 hl1'
      have hcv : ∀ j, (convert 32 9 (.slice A1 xs[k].f1.length c1)).run Tryd.prog (w.drewN j) = .ok (.string (strOfNums xs[k].f1)) (w.drewN j) := fun j => Kd.C_string Tryd.underlying32 Tryd.underlying5 Tryd.underlying9 (Kd.C_drewN hC1 j)
      have hcv' : ∀ j, (convert 32 9 (.slice A1' xs[k].f1.length c1')).run Tryd.prog (w.drewN j) = .ok (.string (strOfNums xs[k].f1)) (w.drewN j) := fun j => Kd.C_string Tryd.underlying32 Tryd.underlying5 Tryd.underlying9 (Kd.C_drewN hC1' j)
      go_wp2_with fail
      go_quiet (fail)
      go_wp2
      go_roundw
      case rel => exact ⟨k + 1, by omega, by go_num, _, rfl⟩
      case measure => simp [intOf]; omega
    · obtain rfl : k = xs.length := by omega
      go_wp2
      go_ret
      exact ⟨rfl, pw_below_drewN (Below.refl _ _) _⟩
end Go.Proofs.YtjpahogldfmaeabDoor
