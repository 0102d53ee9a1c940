/- FnSeekByEnds: the law's walk. -/
import Derived.Test.YtnkhfdnahnphdaaDoorOsWalk
import Derived.Test.YtnkhfdnahnphdaaDoorRows
import Derived.IntWalk
namespace Go.Proofs.YtnkhfdnahnphdaaDoor
open Go.ChangeShapes Go.WideShapes Go.ChangeAt Go.RowKit Go.Rd
open Go.Proofs.YtnkhfdnahnphdaaDoorW.PrintWords Go.Proofs.YtnkhfdnahnphdaaDoorW.PrintLast Go.Proofs.YtnkhfdnahnphdaaDoorW.PrintMore

theorem C_of_bytes {w : World} {A : Option Addr} {n c : Nat} {l : List Int} (h : BytesIn w A n c l) : Kd.C (Kd.int .u8) w A n l := by
  refine ⟨h.len, by have := h.le; have := h.max; simp [maxLen] at this; omega, fun hn => ?_⟩
  cases A with
  | none => have := (h.nil rfl).1; omega
  | some ad =>
    refine ⟨ad, rfl, fun j p hj => ⟨[.int .u8 p], rfl, rfl, fun i u hu => ?_⟩⟩
    have hi : i = 0 := by
      have := (List.getElem?_eq_some_iff.1 hu).1
      simp at this; omega
    subst hi
    cases hu
    have e : j * (Kd.int IntKind.u8).sz + 0 = j := by
      have : (Kd.int IntKind.u8).sz = 1 := rfl
      rw [this]; omega
    rw [e]
    exact h.cells ad rfl j _ (by simp [hj])
theorem bytes_string {w : World} {A : Option Addr} {n c : Nat} {l : List Int} (h : BytesIn w A n c l) : (convert 22 9 (.slice A n c)).run Tryd.prog w = .ok (.string (strOfNums l)) w :=
  Kd.C_string Tryd.underlying22 Tryd.underlying5 Tryd.underlying9 (C_of_bytes h)

/-- A step that seeks. -/
def seekStp (off wh : Int) : Stp := ⟨16, ⟨#[]⟩, ⟨#[]⟩, 0, 0, 0, none, 0, 0, off, wh, 0⟩
set_option maxHeartbeats 1000000 in
theorem to_any (off wh : Int) (w : World) : Calls Tryd.prog 13 #[.int .i64 off, .int .i64 wh] w fun e w' => e = .returned (.agg #[.int .i64 16, .string ⟨#[]⟩, .string ⟨#[]⟩, .int .i64 0, .int .i64 0, .int .i64 0, .slice none 0 0, .int .i64 off, .int .i64 wh, .int .i64 0]) ∧ Below w.heap.size w w' := by
  go_enter Tryd.func13, Tryd.ntmps13
  go_wp2
  exact bodyPost_ret (v := (seekStp off wh).val) (by simp [results, Tryd.results13, go_sem, seekStp, Stp.val]) rfl ⟨rfl, (Below.refl _ _).alloc (Nat.le_refl _) _⟩

theorem steps_lit (W : World) (L : List (Stp × List Int)) (inner : List Value) (hr : Reps (StepK W) 10 L inner) (hm : L.length ≤ 1000000) :
    ReadsRow (StepK (W.alloc (.cells inner.toArray 33))) 10 (W.alloc (.cells inner.toArray 33)) (some ⟨W.heap.size, 0, none⟩) L.length L := by
  obtain ⟨A, c, e, _, h⟩ := OwnRow.reads (OwnRow.lit (e := 33) W W.heap.size hr (Nat.le_refl _) (by omega))
  injection e with e1 e2 e3
  subst e1
  exact h.imp_ (Below.refl _ _) (fun p cs hp => ⟨hp.1, hp.2.below ((Below.refl _ _).alloc (Nat.le_refl _) _)⟩)
theorem stepK_none (W : World) (off wh : Int) : StepK W (seekStp off wh, []) [.int .i64 16, .string ⟨#[]⟩, .string ⟨#[]⟩, .int .i64 0, .int .i64 0, .int .i64 0, .slice none 0 0, .int .i64 off, .int .i64 wh, .int .i64 0] :=
  ⟨rfl, bytes_none W⟩

theorem ans_cells {w : World} {B : Nat} {v : Value} {l : List Ans} (hO : OwnRow (AnsK w (fun _ => False)) 42 6 w B v l) (hne : 0 < l.length) :
    ∃ g c, v = .slice (some ⟨g, 0, none⟩) l.length c ∧ l.length ≤ c ∧ ∀ i a, l[i]? = some a → w.cell? ⟨g, i * 6, none⟩ = some (.int .i64 a.e) ∧ w.cell? ⟨g, i * 6 + 1, none⟩ = some (.int .i64 a.n) ∧ w.cell? ⟨g, i * 6 + 2, none⟩ = some (.int .i64 a.off) := by
  obtain ⟨inner, hin, hri⟩ := hO
  obtain ⟨g, c, rfl, _, _⟩ := hin.form hne
  have hlc : l.length ≤ c := own_cap hin
  refine ⟨g, c, rfl, hlc, fun i a ha => ?_⟩
  obtain ⟨A, k, e, _, _⟩ := hri.2 i a ha
  have hg := hin.cells (g := g) rfl
  have g' : ∀ j u, ((inner.drop (i * 6)).take 6)[j]? = some u → w.cell? ⟨g, i * 6 + j, none⟩ = some u := fun j u hu => by
    have hj : j < 6 := by
      have := (List.getElem?_eq_some_iff.1 hu).1
      simp at this; omega
    rw [List.getElem?_take_of_lt hj, List.getElem?_drop] at hu
    have := hg _ _ hu
    rwa [addr_add, Nat.zero_add] at this
  rw [e] at g'
  exact ⟨g' 0 _ rfl, g' 1 _ rfl, g' 2 _ rfl⟩

set_option maxRecDepth 100000 in
set_option maxHeartbeats 2000000 in
theorem sk_walk (dA : Option Addr) (dm dc : Nat) (data : List Int) (at_ move : Int) (w : World) (hb : BytesIn w dA dm dc data) (hm : dm ≤ 4096) (h1 : -1099511627776 ≤ at_) (h2 : at_ ≤ 1099511627776) (h3 : -1099511627776 ≤ move) (h4 : move ≤ 1099511627776) :
    Calls Tryd.prog 4 #[.slice dA dm dc, .int .i64 at_, .int .i64 move] w fun e w' => e = .returned (.bool true) ∧ Below w.heap.size w w' := by
  have hbf := hb.fits
  have a1 : seekTo ⟨0, 0, false, false, 0⟩ data.length at_ 0 = at_ := rfl
  have hdl : data.length = dm := hb.len
  obtain ⟨L, hL⟩ : ∃ L, [(seekStp at_ 0, ([] : List Int)), (seekStp move 1, []), (seekStp 0 1, []), (seekStp move 2, []), (seekStp 0 1, []), (seekStp move 0, [])] = L := ⟨_, rfl⟩
  obtain ⟨answers, hA⟩ : ∃ a : List Ans, [⟨0, 0, at_, []⟩, ⟨0, 0, at_ + move, []⟩, ⟨0, 0, at_ + move, []⟩, ⟨0, 0, (dm : Int) + move, []⟩, ⟨0, 0, (dm : Int) + move, []⟩, ⟨0, 0, move, []⟩] = a := ⟨_, rfl⟩
  have hR : Hid (Runs ⟨0, false, false, data⟩ L answers ⟨move, false, false, data⟩) := by
    show Runs _ _ _ _
    subst hL hA
    refine .cons (ok_seek _ _ _ rfl rfl ⟨by show (_ : Int) ≤ 0; omega, by show (0 : Int) ≤ _; omega⟩ ⟨by show (_ : Int) ≤ at_; omega, by show at_ ≤ _; omega⟩ (by show data.length ≤ _; omega) _ rfl) ?_
    refine .cons (ok_seek _ _ _ rfl rfl ⟨by show (_ : Int) ≤ at_; omega, by show at_ ≤ _; omega⟩ ⟨by show (_ : Int) ≤ move; omega, by show move ≤ _; omega⟩ (by show data.length ≤ _; omega) _ rfl) ?_
    refine .cons (ok_seek _ _ _ rfl rfl ⟨by show (_ : Int) ≤ at_ + move; omega, by show at_ + move ≤ _; omega⟩ ⟨by show (_ : Int) ≤ 0; omega, by show (0 : Int) ≤ _; omega⟩ (by show data.length ≤ _; omega) (at_ + move) (by show at_ + move + 0 = _; omega)) ?_
    refine .cons (ok_seek _ _ _ rfl rfl ⟨by show (_ : Int) ≤ at_ + move; omega, by show at_ + move ≤ _; omega⟩ ⟨by show (_ : Int) ≤ move; omega, by show move ≤ _; omega⟩ (by show data.length ≤ _; omega) ((dm : Int) + move) (by show (data.length : Int) + move = _; omega)) ?_
    refine .cons (ok_seek _ _ _ rfl rfl ⟨by show (_ : Int) ≤ (dm : Int) + move; omega, by show (dm : Int) + move ≤ _; omega⟩ ⟨by show (_ : Int) ≤ 0; omega, by show (0 : Int) ≤ _; omega⟩ (by show data.length ≤ _; omega) ((dm : Int) + move) (by show (dm : Int) + move + 0 = _; omega)) ?_
    exact .cons (ok_seek _ _ _ rfl rfl ⟨by show (_ : Int) ≤ (dm : Int) + move; omega, by show (dm : Int) + move ≤ _; omega⟩ ⟨by show (_ : Int) ≤ move; omega, by show move ≤ _; omega⟩ (by show data.length ≤ _; omega) move rfl) (.nil _)
  have hLl : L.length = 6 := by rw [← hL]; rfl
  have hcall : ∀ (W : World) (inner : List Value), Reps (StepK W) 10 L inner → BytesIn W dA dm dc data → Calls Tryd.prog 12 #[.slice dA dm dc, .slice (some ⟨W.heap.size, 0, none⟩) 6 6] (W.alloc (.cells inner.toArray 33)) fun e w' => ∃ g cv lA lc, e = .returned (.tuple #[.slice (some ⟨g, 0, none⟩) 6 cv, .slice lA dm lc, .bool true]) ∧ (∀ i a, answers[i]? = some a → w'.cell? ⟨g, i * 6, none⟩ = some (.int .i64 a.e) ∧ w'.cell? ⟨g, i * 6 + 1, none⟩ = some (.int .i64 a.n) ∧ w'.cell? ⟨g, i * 6 + 2, none⟩ = some (.int .i64 a.off)) ∧ BytesIn w' lA dm lc data ∧ Below W.heap.size W w' := by
    intro W inner hr hbW
    have h := one_any dA dm dc data (some ⟨W.heap.size, 0, none⟩) 6 L answers ⟨move, false, false, data⟩ (W.alloc (.cells inner.toArray 33)) (hbW.below ((Below.refl _ _).alloc (Nat.le_refl _) _)) (by omega) (steps_lit W L inner hr (by omega)) (by omega) hR (by show data.length ≤ _; omega)
    rw [hLl] at h
    refine h.mono ?_
    rintro e w' ⟨v, lA, lc, rfl, hO, hB1, hB2⟩
    have hal : answers.length = 6 := by rw [← hA]; rfl
    obtain ⟨g, cv, rfl, _, hc⟩ := ans_cells hO (by omega)
    rw [hal]
    have e2 : (⟨move, false, false, data⟩ : St).bs.length = dm := hdl
    rw [e2] at hB1 ⊢
    exact ⟨g, cv, lA, lc, rfl, hc, hB1, ((Below.refl _ _).alloc (Nat.le_refl _) _).trans (hB2.mono (by simp))⟩
  have HC := Lib.hid hcall
  clear hcall
  have HL := Lib.hid hL
  have HA := Lib.hid hA
  have HLl := Lib.hid hLl
  have HD := Lib.hid hdl
  clear hL hA hLl hdl a1
  go_enter Tryd.func4, Tryd.ntmps4
  go_wp2_with fail
  refine (to_any _ _ _).mono ?_
  rintro e w1 ⟨rfl, hb1⟩
  go_wp2_with fail
  refine (to_any _ _ _).mono ?_
  rintro e w2 ⟨rfl, hb2⟩
  go_wp2_with fail
  refine (to_any _ _ _).mono ?_
  rintro e w3 ⟨rfl, hb3⟩
  go_wp2_with fail
  refine (to_any _ _ _).mono ?_
  rintro e w4 ⟨rfl, hb4⟩
  go_wp2_with fail
  refine (to_any _ _ _).mono ?_
  rintro e w5 ⟨rfl, hb5⟩
  go_wp2_with fail
  refine (to_any _ _ _).mono ?_
  rintro e w6 ⟨rfl, hb6⟩
  go_wp2_with fail
  have hB6 := hb1.trans ((hb2.trans ((hb3.trans ((hb4.trans ((hb5.trans (hb6.mono hb5.size)).mono hb4.size)).mono hb3.size)).mono hb2.size)).mono hb1.size)
  refine (HC.out w6 _ ?_ (hb.below hB6)).mono ?_
  · rw [← HL.out]
    exact Reps.c10 (stepK_none _ _ _) (Reps.c10 (stepK_none _ _ _) (Reps.c10 (stepK_none _ _ _) (Reps.c10 (stepK_none _ _ _) (Reps.c10 (stepK_none _ _ _) (Reps.c10 (stepK_none _ _ _) (Reps.none _ _))))))
  rintro e w7 ⟨g, cv, lA, lc, rfl, hc, hb7, hB7⟩
  have x0 : w7.cell? ⟨g, 2, none⟩ = some (.int .i64 at_) := (hc 0 _ (by rw [← HA.out]; rfl)).2.2
  have x1 : w7.cell? ⟨g, 8, none⟩ = some (.int .i64 (at_ + move)) := (hc 1 _ (by rw [← HA.out]; rfl)).2.2
  have x2 : w7.cell? ⟨g, 14, none⟩ = some (.int .i64 (at_ + move)) := (hc 2 _ (by rw [← HA.out]; rfl)).2.2
  have x3 : w7.cell? ⟨g, 20, none⟩ = some (.int .i64 ((dm : Int) + move)) := (hc 3 _ (by rw [← HA.out]; rfl)).2.2
  have x4 : w7.cell? ⟨g, 26, none⟩ = some (.int .i64 ((dm : Int) + move)) := (hc 4 _ (by rw [← HA.out]; rfl)).2.2
  have x5 : w7.cell? ⟨g, 32, none⟩ = some (.int .i64 move) := (hc 5 _ (by rw [← HA.out]; rfl)).2.2
  have z1 : ∀ j, (convert 22 9 (.slice lA dm lc)).run Tryd.prog (w7.drewN j) = .ok (.string (strOfNums data)) (w7.drewN j) := fun j => bytes_string (hb7.below (pw_below_drewN (Below.refl _ _) j))
  have z2 : ∀ j, (convert 22 9 (.slice dA dm dc)).run Tryd.prog (w7.drewN j) = .ok (.string (strOfNums data)) (w7.drewN j) := fun j => bytes_string (((hb.below hB6).below hB7).below (pw_below_drewN (Below.refl _ _) j))
  have y1 : IntKind.i64.wrap (at_ + move) = at_ + move := IntWalk.i64_in _ (by omega)
  have y2 : IntKind.i64.wrap ((dm : Int) + move) = (dm : Int) + move := IntWalk.i64_in _ (by omega)
  clear hc
  go_wp2_with fail
  go_quiet (fail)
  go_wp2
  go_ret
  exact ⟨rfl, hB6.trans ((hB7.trans (pw_below_drewN (Below.refl _ _) _)).mono hB6.size)⟩

set_option maxRecDepth 100000 in
set_option maxHeartbeats 2000000 in
theorem sk_main (w : World) (dA : Option Addr) (dm dc : Nat) (zs : List Int) (hr : IsRow .u8 w dA dm dc zs) (at_ : Int) (_ : (Lit.int .i64 at_).wf = true) (move : Int) (_ : (Lit.int .i64 move).wf = true) (_ : laidMetH Tryd.prog Rows.fnSeekByEndsRow.laid w) :
    Calls Tryd.prog 4 #[.slice dA dm dc, .int .i64 at_, .int .i64 move] w fun e w' => e = .returned (.bool true) ∧ Below w.heap.size w w' := by
  have hb := BytesIn.of_row hr
  clear hr
  by_cases g0 : dm ≤ 4096
  · by_cases g1 : at_ ≤ 1099511627776
    · by_cases g2 : -1099511627776 ≤ at_
      · by_cases g3 : move ≤ 1099511627776
        · by_cases g4 : -1099511627776 ≤ move
          · exact sk_walk dA dm dc _ at_ move w hb g0 g2 g1 g4 g3
          · have g4' : move < -1099511627776 := by omega
            clear g4
            go_enter Tryd.func4, Tryd.ntmps4
            go_wp2
            go_ret
            exact ⟨rfl, Below.refl _ _⟩
        · have g3' : 1099511627776 < move := by omega
          clear g3
          go_enter Tryd.func4, Tryd.ntmps4
          go_wp2
          go_ret
          exact ⟨rfl, Below.refl _ _⟩
      · have g2' : at_ < -1099511627776 := by omega
        clear g2
        go_enter Tryd.func4, Tryd.ntmps4
        go_wp2
        go_ret
        exact ⟨rfl, Below.refl _ _⟩
    · have g1' : 1099511627776 < at_ := by omega
      clear g1
      go_enter Tryd.func4, Tryd.ntmps4
      go_wp2
      go_ret
      exact ⟨rfl, Below.refl _ _⟩
  · have g0' : 4096 < dm := by omega
    clear g0
    by_cases g5 : dm ≤ 2147483647
    · go_enter Tryd.func4, Tryd.ntmps4
      go_wp2
      go_ret
      exact ⟨rfl, Below.refl _ _⟩
    · have g5' : 2147483647 < dm := by omega
      clear g5
      go_enter Tryd.func4, Tryd.ntmps4
      go_wp2
      go_ret
      exact ⟨rfl, Below.refl _ _⟩
end Go.Proofs.YtnkhfdnahnphdaaDoor
