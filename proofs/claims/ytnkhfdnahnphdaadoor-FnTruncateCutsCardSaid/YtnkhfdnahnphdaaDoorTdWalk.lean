/- FnTruncateCuts: the law's walk where Truncate cuts, or fills up. -/
import Derived.Test.YtnkhfdnahnphdaaDoorTcWalk
namespace Go.Proofs.YtnkhfdnahnphdaaDoor
open Go.ChangeShapes Go.WideShapes Go.ChangeAt Go.RowKit Go.Rd
open Go.Proofs.YtnkhfdnahnphdaaDoorW.PrintWords Go.Proofs.YtnkhfdnahnphdaaDoorW.PrintLast Go.Proofs.YtnkhfdnahnphdaaDoorW.PrintMore

theorem cutTo_length (l : List Int) (s : Nat) : (cutTo l s).length = s := by
  unfold cutTo; simp; omega
theorem bytes_take {w : World} {A : Option Addr} {n c : Nat} {l : List Int} (h : BytesIn w A n c l) (m : Nat) (hm : m ≤ n) : BytesIn w A m c (l.take m) :=
  ⟨by have := h.len; simp; omega, fun e => by have := h.nil e; omega, Nat.le_trans hm h.le, h.max, fun x hx j u hu => h.cells x hx j u (by
    rw [List.map_take] at hu
    rcases Nat.lt_or_ge j m with g | g
    · rwa [List.getElem?_take_of_lt g] at hu
    · rw [List.getElem?_eq_none (by simp; omega)] at hu; cases hu), fun c hc => h.fits c (List.mem_of_mem_take hc)⟩

set_option linter.unusedVariables false
theorem cut_run0 (A : Option Addr) (n c s : Nat) (h : s ≤ c) (W : World) : (Instr.slice 22 (.slice A n c) none (some (.int .i64 (s : Int))) none).run Tryd.prog W = .ok (.slice A s c) W := by
  have hu := Tryd.underlying22
  go_simp

theorem below_made {w1 w2 : World} {o : Obj} (hg : (w1.alloc o).grownBy w2 (some w1.heap.size)) : Below w1.heap.size w1 w2 :=
  ((Below.refl _ _).alloc (Nat.le_refl _) o).trans ⟨hg.os, hg.tape, hg.output, Nat.le_trans (by simp) hg.size, fun k hk => hg.block k (by simp; omega) (fun e => by injection e with e; omega)⟩
theorem cutTo_fits {l : List Int} (h : ∀ c ∈ l, 0 ≤ c ∧ c ≤ 255) (s : Nat) : ∀ c ∈ cutTo l s, 0 ≤ c ∧ c ≤ 255 := by
  intro c hc
  unfold cutTo at hc
  rcases List.mem_append.1 hc with g | g
  · exact h c (List.mem_of_mem_take g)
  · rw [(List.mem_replicate.1 g).2]; omega
theorem cutTo_short {l : List Int} {s : Nat} (h : s ≤ l.length) : cutTo l s = l.take s := by
  unfold cutTo
  rw [show s - l.length = 0 by omega]; simp
theorem cutTo_snoc {l : List Int} {n : Nat} (h : l.length ≤ n) : cutTo l (n + 1) = cutTo l n ++ [0] := by
  unfold cutTo
  rw [List.take_of_length_le (by omega), List.take_of_length_le h, List.append_assoc, show n + 1 - l.length = (n - l.length) + 1 by omega, List.replicate_succ']
/-- What the law's own loop has: the bytes cut, and zeros behind them. -/
def WantRel (w1 : World) (dm : Nat) (data : List Int) (s : Nat) (v : Value) (wr : World) : Prop :=
  ∃ n A c, v = .slice A n c ∧ (n = s ∨ dm ≤ n) ∧ n ≤ s ∧ wr.ownsRow w1.heap.size 5 1 v n ((cutTo data n).map (Value.int .u8)) ∧ Below w1.heap.size w1 wr

set_option maxRecDepth 100000 in
set_option maxHeartbeats 2000000 in
theorem tc_cut (dA : Option Addr) (dm dc : Nat) (data : List Int) (s : Nat) (k : Int) (w : World) (hb : BytesIn w dA dm dc data) (hm : dm ≤ 4096) (hz : s ≤ 4096) (h1 : 0 ≤ k) (h2 : k ≤ 1099511627776) (hse : ∃ ad, Sents w.heap.size w ad) :
    Calls Tryd.prog 5 #[.slice dA dm dc, .bool false, .int .i64 (s : Int), .int .i64 k] w fun e w' => e = .returned (.bool true) ∧ Below w.heap.size w w' := by
  have hdl : data.length = dm := hb.len
  obtain ⟨fin, hfin⟩ : ∃ l, cutTo data s = l := ⟨_, rfl⟩
  have hfl : fin.length = s := by rw [← hfin]; exact cutTo_length _ _
  have hstep : StepOkE ⟨k, false, false, data⟩ (cutStp (s : Int), []) ⟨0, 0, 0, []⟩ ⟨k, false, false, fin⟩ := by
    rw [← hfin]
    exact okE_trunc _ _ _ s rfl rfl rfl rfl (by omega)
  have hs := tc_script dA dm dc data false k (s : Int)
  have HS := Lib.hid hs
  have HST := Lib.hid hstep
  clear hs hstep
  have HSE := Lib.hid hse
  have HD := Lib.hid hdl
  have HF := Lib.hid hfin
  have HFL := Lib.hid hfl
  clear hse hdl hfin hfl
  go_enter Tryd.func5, Tryd.ntmps5
  go_wp2_with fail
  refine (HS.out 0 fin w hb hm h1 h2 (by rw [HFL.out]; omega) HSE.out HST.out _ ?_).mono ?_
  · exact Reps.c10 (stepK_none _ _ _) (Reps.c10 (stepK_cut _ _) (Reps.c10 (stepK_none _ _ _) (Reps.none _ _)))
  rintro e w1 ⟨g, cv, lA, lc, rfl, hcv, x0, x1, hb1, hB1⟩
  rw [HFL.out] at hb1
  have hb2 := hb.below hB1
  rw [HFL.out]
  obtain ⟨p, hp1, hp2, hp3⟩ : ∃ p : Nat, p ≤ dm ∧ p ≤ s ∧ (p = dm ∨ p = s) := by
    by_cases h : s ≤ dm
    · exact ⟨s, h, Nat.le_refl _, .inr rfl⟩
    · exact ⟨dm, Nat.le_refl _, by omega, .inl rfl⟩
  have hle := hb2.le
  have hrun := cut_run0 dA dm dc p (by omega)
  have hbp := bytes_take hb2 p hp1
  have HP := Lib.hid hp3
  clear hp3
  by_cases hlt : s < dm
  · obtain rfl : s = p := by have := HP.out; omega
    go_wp2_with (at_builtin; refine append_src rfl (.tmp 82) (.tmp 88) 22 rfl w1.heap.size 5 _ (.int .u8 0) 1 1 Tryd.underlying22 rfl rfl rfl rfl rfl (by decide) _ 0 [] rfl (World.ownsRow_made w1 #[] 0 (Nat.le_refl _) (by decide) rfl) dA s dc _ rfl (hbp.src).1 hbp.nil (hbp.below ((Below.refl _ _).alloc (Nat.le_refl _) _)).cells (hbp.src).2.2.2 (by unfold maxLen; omega) (by omega) (by simp) ?_; intro v2 w2 ho2 hg2)
    have hB2 : Below w1.heap.size w1 w2 := below_made hg2
    rw [Nat.zero_add, List.nil_append, ← cutTo_short (by rw [HD.out]; omega)] at ho2
    obtain ⟨A2, c2, e2⟩ := own_slice ho2
    subst e2
    go_loopw [11] (fun v wr => WantRel w1 dm data s v wr) (fun v _ => s - lenOf v)
    case atStart => first | exact ⟨s, A2, c2, rfl, .inl rfl, Nat.le_refl _, ho2, hB2⟩ | exact ⟨dm, A2, c2, rfl, .inr (Nat.le_refl _), hp2, ho2, hB2⟩
    case round =>
      obtain ⟨n, A3, c3, rfl, hn1, hn2, ho3, hB3⟩ := hrel
      clear ho2 hB2 hg2 hbp hrun
      by_cases hns : n < s
      · exfalso
        omega
      · obtain rfl : n = s := by omega
        rw [HF.out] at ho3
        have hfits : ∀ c ∈ fin, 0 ≤ c ∧ c ≤ 255 := by rw [← HF.out]; exact cutTo_fits hb2.fits _
        obtain ⟨A5, c5, e5, hb5⟩ := BytesIn.own ho3 hfits
        injection e5 with e51 e52 e53
        subst e51 e53
        have y0 := (hB3.cell (p := ⟨g, 6, none⟩) (cell_lt x0)).trans x0
        have hb6 := hb1.below hB3
        have z1 : ∀ j, (convert 22 9 (.slice lA n lc)).run Tryd.prog (wr.drewN j) = .ok (.string (strOfNums fin)) (wr.drewN j) := fun j => bytes_string (hb6.below (pw_below_drewN (Below.refl _ _) j))
        have z2 : ∀ j, (convert 22 9 (.slice A3 n c3)).run Tryd.prog (wr.drewN j) = .ok (.string (strOfNums fin)) (wr.drewN j) := fun j => bytes_string (hb5.below (pw_below_drewN (Below.refl _ _) j))
        have z3 : (convert 22 9 (.slice lA n lc)).run Tryd.prog wr = .ok (.string (strOfNums fin)) wr := z1 0
        have z4 : (convert 22 9 (.slice A3 n c3)).run Tryd.prog wr = .ok (.string (strOfNums fin)) wr := z2 0
        have hBf := hB1.trans (hB3.mono hB1.size)
        clear ho3 hfits
        go_wp2
        go_ret
        exact ⟨rfl, hBf⟩
  · obtain rfl : dm = p := by have := HP.out; omega
    go_wp2_with (at_builtin; refine append_src rfl (.tmp 82) (.tmp 88) 22 rfl w1.heap.size 5 _ (.int .u8 0) 1 1 Tryd.underlying22 rfl rfl rfl rfl rfl (by decide) _ 0 [] rfl (World.ownsRow_made w1 #[] 0 (Nat.le_refl _) (by decide) rfl) dA dm dc _ rfl (hbp.src).1 hbp.nil (hbp.below ((Below.refl _ _).alloc (Nat.le_refl _) _)).cells (hbp.src).2.2.2 (by unfold maxLen; omega) (by omega) (by simp) ?_; intro v2 w2 ho2 hg2)
    have hB2 : Below w1.heap.size w1 w2 := below_made hg2
    rw [Nat.zero_add, List.nil_append, ← cutTo_short (by rw [HD.out]; omega)] at ho2
    obtain ⟨A2, c2, e2⟩ := own_slice ho2
    subst e2
    go_loopw [11] (fun v wr => WantRel w1 dm data s v wr) (fun v _ => s - lenOf v)
    case atStart => first | exact ⟨s, A2, c2, rfl, .inl rfl, Nat.le_refl _, ho2, hB2⟩ | exact ⟨dm, A2, c2, rfl, .inr (Nat.le_refl _), hp2, ho2, hB2⟩
    case round =>
      obtain ⟨n, A3, c3, rfl, hn1, hn2, ho3, hB3⟩ := hrel
      clear ho2 hB2 hg2 hbp hrun
      by_cases hns : n < s
      · have hn3 : dm ≤ n := by omega
        go_wp2_with (at_builtin; refine append_src rfl (.tmp 94) (.tmp 95) 22 rfl w1.heap.size 5 _ (.int .u8 0) 1 1 Tryd.underlying22 rfl rfl rfl rfl rfl (by decide) _ n _ rfl (ho3.alloc _) (some ⟨wr.heap.size, 0, none⟩) 1 1 [.int .u8 0] rfl rfl (fun h => by cases h) (fun ad e => by cases e; exact cells_new wr #[.int .u8 0] 5 wr.heap.size rfl [.int .u8 0] rfl) (by simp [Value.oneCell']) (by unfold maxLen; omega) (by omega) (Nat.le_trans hB3.size (by simp)) ?_; intro v4 w4 ho4 hg4; obtain ⟨A4, c4, e4⟩ := own_slice ho4; subst e4)
        go_roundw
        case rel =>
          refine ⟨n + 1, A4, c4, rfl, .inr (by omega), by omega, ?_, ?_⟩
          · rw [cutTo_snoc (by rw [HD.out]; exact hn3), List.map_append]
            exact ho4
          · refine (hB3.alloc hB3.size _).trans ⟨hg4.os, hg4.tape, hg4.output, hg4.size, fun k hk => hg4.block k (by have := hB3.size; simp; omega) (fun e => ?_)⟩
            have := ho3.lt k e.symm
            omega
        case measure => simp [lenOf]; omega
      · obtain rfl : n = s := by omega
        rw [HF.out] at ho3
        have hfits : ∀ c ∈ fin, 0 ≤ c ∧ c ≤ 255 := by rw [← HF.out]; exact cutTo_fits hb2.fits _
        obtain ⟨A5, c5, e5, hb5⟩ := BytesIn.own ho3 hfits
        injection e5 with e51 e52 e53
        subst e51 e53
        have y0 := (hB3.cell (p := ⟨g, 6, none⟩) (cell_lt x0)).trans x0
        have hb6 := hb1.below hB3
        have z1 : ∀ j, (convert 22 9 (.slice lA n lc)).run Tryd.prog (wr.drewN j) = .ok (.string (strOfNums fin)) (wr.drewN j) := fun j => bytes_string (hb6.below (pw_below_drewN (Below.refl _ _) j))
        have z2 : ∀ j, (convert 22 9 (.slice A3 n c3)).run Tryd.prog (wr.drewN j) = .ok (.string (strOfNums fin)) (wr.drewN j) := fun j => bytes_string (hb5.below (pw_below_drewN (Below.refl _ _) j))
        have z3 : (convert 22 9 (.slice lA n lc)).run Tryd.prog wr = .ok (.string (strOfNums fin)) wr := z1 0
        have z4 : (convert 22 9 (.slice A3 n c3)).run Tryd.prog wr = .ok (.string (strOfNums fin)) wr := z2 0
        have hBf := hB1.trans (hB3.mono hB1.size)
        clear ho3 hfits
        go_wp2
        go_ret
        exact ⟨rfl, hBf⟩

set_option maxRecDepth 100000 in
set_option maxHeartbeats 4000000 in
theorem tc_main (w : World) (dA : Option Addr) (dm dc : Nat) (zs : List Int) (hr : IsRow .u8 w dA dm dc zs) (ro : Bool) (z : Int) (_ : (Lit.int .i64 z).wf = true) (k : Int) (_ : (Lit.int .i64 k).wf = true) (hL : laidMetH Tryd.prog Rows.fnTruncateCutsRow.laid w) :
    Calls Tryd.prog 5 #[.slice dA dm dc, .bool ro, .int .i64 z, .int .i64 k] w fun e w' => e = .returned (.bool true) ∧ Below w.heap.size w w' := by
  have hb := BytesIn.of_row hr
  have hse : ∃ ad, Sents w.heap.size w ad := sents_of hL
  clear hr hL
  by_cases g0 : dm ≤ 2147483647
  rotate_left
  · have g : 2147483647 < dm := by omega
    clear g0 hb hse
    go_enter Tryd.func5, Tryd.ntmps5
    go_wp2
    go_ret
    exact ⟨rfl, Below.refl _ _⟩
  by_cases g1 : dm ≤ 4096
  rotate_left
  · have g : 4096 < dm := by omega
    clear g1 hb hse
    go_enter Tryd.func5, Tryd.ntmps5
    go_wp2
    go_ret
    exact ⟨rfl, Below.refl _ _⟩
  by_cases g2 : z ≤ 4096
  rotate_left
  · have g : 4096 < z := by omega
    clear g2 hb hse
    go_enter Tryd.func5, Tryd.ntmps5
    go_wp2
    go_ret
    exact ⟨rfl, Below.refl _ _⟩
  by_cases g3 : 0 ≤ k
  rotate_left
  · have g : k < 0 := by omega
    clear g3 hb hse
    go_enter Tryd.func5, Tryd.ntmps5
    go_wp2
    go_ret
    exact ⟨rfl, Below.refl _ _⟩
  by_cases g4 : k ≤ 1099511627776
  rotate_left
  · have g : 1099511627776 < k := by omega
    clear g4 hb hse
    go_enter Tryd.func5, Tryd.ntmps5
    go_wp2
    go_ret
    exact ⟨rfl, Below.refl _ _⟩
  cases ro with
  | true => exact tc_ro dA dm dc _ z k w hb g1 g2 g3 g4 hse
  | false =>
    by_cases g5 : z < 0
    · exact tc_neg dA dm dc _ z k w hb g1 g5 g3 g4 hse
    · obtain ⟨s, rfl⟩ := Int.eq_ofNat_of_zero_le (by omega : 0 ≤ z)
      exact tc_cut dA dm dc _ s k w hb g1 (by omega) g3 g4 hse
end Go.Proofs.YtnkhfdnahnphdaaDoor
