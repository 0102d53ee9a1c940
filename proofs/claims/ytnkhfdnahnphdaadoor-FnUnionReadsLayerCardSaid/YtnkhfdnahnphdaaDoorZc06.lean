/- Parts of the proof, merged: WgWalk. -/
import Derived.Test.YtnkhfdnahnphdaaDoorZc04
section
namespace Go.Proofs.YtnkhfdnahnphdaaDoor
open Go.ChangeShapes Go.WideShapes Go.ChangeAt Go.RowKit Go.Rd
set_option linter.unusedVariables false
open Go.Proofs.YtnkhfdnahnphdaaDoorW.PrintWords Go.Proofs.YtnkhfdnahnphdaaDoorW.PrintLast Go.Proofs.YtnkhfdnahnphdaaDoorW.PrintMore
theorem made_zeros (m : Nat) : (madeCells (Value.int .u8 0).cells m).toList = (List.replicate m (0 : Int)).map (Value.int .u8) := by
  apply List.ext_getElem?
  intro i
  have hs : (madeCells (Value.int .u8 0).cells m).size = m := size_madeCells _ _
  by_cases hi : i < m
  · rw [List.getElem?_eq_getElem (by simp [hs]; exact hi), List.getElem?_eq_getElem (by simp; exact hi)]
    simp [madeCells, Value.cells, Nat.mod_one]
  · rw [List.getElem?_eq_none (by simp [hs]; omega), List.getElem?_eq_none (by simp; omega)]
theorem gap_size (w : World) (o : Obj) : (w.drew.alloc o).heap.size = w.heap.size + 1 := by
  show (w.heap.push o).size = _
  simp
theorem gap_below {w w2 : World} {o : Obj} (hg : (w.drew.alloc o).grownBy w2 (some w.heap.size)) : Below w.heap.size w w2 := by
  have h1 : Below w.heap.size w (w.drew.alloc o) := (Below.refl _ _).drew.alloc (Nat.le_refl _) o
  refine h1.trans ⟨hg.os, hg.tape, hg.output, hg.size, fun k hk => hg.block k ?_ ?_⟩
  · rw [gap_size]; omega
  · intro e
    injection e with e
    omega
theorem gap_second {P : Program} {w2 : World} {B n k g : Nat} {dv v : Value} {xs : List Value} {l : List Int} (hu : P.underlying 22 = some (.slice 5)) (hinfo : (P.info? 5).map (fun i => (i.zero, i.size, i.bytes)) = some (some (.int .u8 0), 1, 1))
    (hd : w2.ownsRow B 5 1 dv n xs) (ho : w2.ownsRow g 5 1 v k (l.map (Value.int .u8))) (hf : ∀ c ∈ l, 0 ≤ c ∧ c ≤ 255) (hl : n + k ≤ 140737488355328) (hB : B ≤ w2.heap.size) :
    Hid (∃ v' w', (Builtin.append_ #[22, 22] 22 #[dv, v]).run P w2 = .ok v' w' ∧ w'.ownsRow B 5 1 v' (n + k) (xs ++ l.map (Value.int .u8)) ∧ w2.grownBy w' dv.ownBlock ∧ (v'.ownBlock = dv.ownBlock ∨ v'.ownBlock = some w2.heap.size)) := by
  obtain ⟨A, c, rfl, hb⟩ := BytesIn.own ho hf
  exact run_src (P := P) (w := w2) 22 22 5 B hu hinfo dv n xs hd A k c l hb hl hB
set_option maxRecDepth 100000 in
set_option maxHeartbeats 4000000 in
theorem write_gap (f B fd a k : Nat) (rdc : Int) (dv : Value) (d : FD) (A : Option Addr) (m c : Nat) (b : List Int) (w : World) (hH : HandleIs w f ⟨(a : Int), rdc, false, false, fd⟩) (hD : DataIs w B fd dv d) (hb : BytesIn w A m c b)
    (hk : a = d.bs.length + k) (hk0 : 0 < k) (hm : m ≤ 4294967296) (hm2 : a ≤ 4294967296) (hB : B ≤ w.heap.size) :
    Calls Tryd.prog 35 #[.pointer (some ⟨f, 0, none⟩), .slice A m c] w fun e w' => e = .returned (.tuple #[.int .i64 (m : Int), .nilIface]) ∧ Laid w w' f B fd ⟨(a : Int) + m, rdc, false, false, fd⟩ dv { d with bs := d.bs ++ (List.replicate k 0 ++ b), mt := 0 } := by
  obtain ⟨l1, hE⟩ : ∃ l1, d.bs ++ (List.replicate k 0 ++ b) = l1 := ⟨_, rfl⟩
  have hl1 : l1.length = a + m := by rw [← hE]; simp [hb.len]; omega
  have hl2 : d.bs.map (Value.int .u8) ++ (List.replicate k 0 ++ b).map (Value.int .u8) = l1.map (Value.int .u8) := by rw [← hE]; simp
  have hl3 : ∀ x ∈ l1, 0 ≤ x ∧ x ≤ 255 := fun x hx => by
    rw [← hE] at hx
    rcases List.mem_append.1 hx with h | h
    · exact hD.2.2 x h
    · rcases List.mem_append.1 h with h | h
      · rw [(List.mem_replicate.1 h).2]; omega
      · exact hb.fits x h
  have hl5 : ∀ x ∈ List.replicate k 0 ++ b, (0 : Int) ≤ x ∧ x ≤ 255 := fun x hx => hl3 x (by rw [← hE]; exact List.mem_append_right _ hx)
  rw [hE]
  clear hE
  obtain ⟨Ad, cd, rfl⟩ := hD.slice
  have c0 := (cell_of hH 0).trans rfl
  have c2 := (cell_of hH 2).trans rfl
  have c3 := (cell_of hH 3).trans rfl
  have c4 := (cell_of hH 4).trans rfl
  have d1 := (cell_of hD.1 1).trans rfl
  have f0 := free_of hH 0
  have g1 := free_of hD.1 1
  obtain ⟨i0, hi, hzz⟩ := Option.map_eq_some_iff.1 infoU8
  simp only [Prod.mk.injEq] at hzz
  obtain ⟨Z, hZ, hZs, hmk⟩ := make_run (P := Tryd.prog) (t := 22) Tryd.underlying22 hi hzz.1 k (by rw [hzz.2.2]; omega) (by unfold maxLen; omega)
  have hZl : Z.toList = (List.replicate k (0 : Int)).map (Value.int .u8) := by
    have := hZ.out
    rw [this, hzz.2.1, Nat.mul_one]
    exact made_zeros k
  have hZk : Z.size = k := by rw [hZs, hzz.2.1, Nat.mul_one]
  have hown := World.ownsRow_lit (base := w.drew.heap.size) (e := 5) (size := 1) w.drew Z k (Nat.le_refl _) (by unfold maxLen; omega) (by omega)
  rw [hZl] at hown
  have hbW : BytesIn (w.drew.alloc (.cells Z 5)) A m c b := hb.below ((Below.refl _ _).drew.alloc (Nat.le_refl _) _)
  have hR := run_src (P := Tryd.prog) (w := w.drew.alloc (.cells Z 5)) 22 22 5 w.drew.heap.size Tryd.underlying22 infoU8 _ k _ hown A m c b hbW (by omega) (by simp)
  rw [← List.map_append] at hR
  have HR := Lib.hid hR
  have hmk' := hmk w.drew
  have hl4 : l1.length ≤ 8589934592 := by omega
  have HL1 := Lib.hid hl1
  have HL2 := Lib.hid hl2
  have HL3 := Lib.hid hl3
  have HL5 := Lib.hid hl5
  clear hR hl1 hl2 hl3 hl5 hZ hZs hZl hZk hzz hi hown hbW hmk
  have hdiff : IntKind.i64.wrap ((a : Int) - (d.bs.length : Int)) = (k : Int) := by
    rw [show (a : Int) - (d.bs.length : Int) = (k : Int) by omega]
    exact IntWalk.i64_in _ (by omega)
  have hkd : (0 : Int) < (k : Int) := by omega
  have HK := Lib.hid hk
  have hk2 : d.bs.length ≤ a := by omega
  have hfl : f < w.heap.size := lt_of_heap hH
  have hfdl : fd < w.heap.size := lt_of_heap hD.1
  have hk4 : k ≤ 4294967296 := by omega
  clear hk
  go_enter Tryd.func35, Tryd.ntmps35
  go_upto_region 12 with fail
  go_cut [] (fun wx => Laid w wx f B fd ⟨(a : Int), rdc, false, false, fd⟩ (.slice Ad d.bs.length cd) { d with bs := l1 })
  case first =>
    go_region_law (first
      | (refine step_append_run rfl (.tmp 82) (.tmp 83) 22 rfl (.slice (some ⟨w.heap.size, 0, none⟩) k k) (.slice A m c) rfl rfl _ HR.out ?_; rintro v2 w2 ⟨ho2, hg2, hat2⟩; have hB2 := gap_below hg2; have hD2 : DataIs w2 B fd (.slice Ad d.bs.length cd) d := hD.below hB2; have hH2 := hH.below hB2; have HR2 := gap_second Tryd.underlying22 infoU8 hD2.2.1 ho2 HL5.out (by omega) (Nat.le_trans hB hB2.size); obtain ⟨A2, c2, ev2⟩ := own_slice ho2; subst ev2; have e4 := (cell_of hH2 4).trans rfl; have e1 := (cell_of hD2.1 1).trans rfl; have e1f := free_of hD2.1 1)
      | (refine step_append_run rfl (.tmp 80) (.tmp 84) 22 rfl (.slice Ad d.bs.length cd) (.slice A2 (k + m) c2) rfl rfl _ HR2.out ?_; rintro v3 w3 ⟨ho3, hg3, hat3⟩; obtain ⟨A3, c3', ev3⟩ := own_slice ho3; subst ev3; have hw3 := wrote_grown hg3; have hd3 := (hw3.block fd (lt_of_heap hD2.1) (fun e => row_fd hD2 fd e rfl)).trans hD2.1; have hh3 := hH2.wrote hw3 (fun e => row_fh hD2 hH2 f e rfl); have z4 := (cell_of hh3 4).trans rfl; have z1 := (cell_of hd3 1).trans rfl; have z1f := free_of hd3 1))
    all_goals
      go_wp2_with fail
      go_meet
      exact Laid.trans (w1 := w2) (Wrote.of_below hB2) (.inl rfl) (laid_store (l := l1) hH2 hD2 ho3 hg3 hat3 (by rw [HL1.out]; have := HK.out; omega) HL2.out HL3.out)
  case rest =>
    obtain ⟨dv1, hH1, hD1, hW1, hat1⟩ := hcut
    clear c0 c2 c3 c4 d1 f0 g1 HR hmk'
    obtain ⟨A1, k1, rfl⟩ := hD1.slice
    have c0 := (cell_of hH1 0).trans rfl
    have c4 := (cell_of hH1 4).trans rfl
    have d1 := (cell_of hD1.1 1).trans rfl
    have f0 := free_of hH1 0
    have g1 := free_of hD1.1 1
    have hBc : B ≤ wc.heap.size := Nat.le_trans hB hW1.size
    have hR := run_src (P := Tryd.prog) (w := wc.drew) 22 22 5 B Tryd.underlying22 infoU8 _ _ _ (World.ownsRow.drew hD1.2.1) none 0 0 [] (bytes_none _) (by show l1.length + 0 ≤ _; omega) hBc
    have HR := Lib.hid hR
    clear hR
    go_upto_region 13 with fail
    go_cut [] (fun wx => Laid wc wx f B fd ⟨(a : Int), rdc, false, false, fd⟩ (.slice A1 l1.length k1) { d with bs := l1 })
    case first =>
      go_region_law (refine step_append_run rfl (.tmp 98) (.tmp 99) 22 rfl (.slice A1 l1.length k1) (.slice none 0 0) (by simp [Act.eval]) (by simp [Act.eval]) _ HR.out ?_; rintro v1 w1 ⟨ho1, hg1, hat1⟩; obtain ⟨A2, c2, ev1⟩ := own_slice ho1; subst ev1; have hw1 := wrote_grown hg1; have hd1 := (hw1.block fd (lt_of_heap hD1.1) (fun e => row_fd hD1 fd e rfl)).trans hD1.1; have hh1 := hH1.wrote (w := wc.drew) hw1 (fun e => row_fh hD1 hH1 f e rfl); have e4 := (cell_of hh1 4).trans rfl; have e1 := (cell_of hd1 1).trans rfl; have e1f := free_of hd1 1)
      all_goals
        go_wp2_with fail
        go_meet
        exact Laid.of_drew <| laid_store (w := wc.drew) (d := { d with bs := l1 }) (l := l1) hH1 hD1 ho1 hg1 hat1 rfl (by simp) HL3.out
    case rest =>
      obtain ⟨dv2, hH2, hD2, hW2, hat2⟩ := hcut
      clear c0 c4 d1 f0 g1 HR
      have c4 := (cell_of hH2 4).trans rfl
      go_wp2_with (go_at_call 68; refine (set_mt fd B dv2 _ 0 _ hD2).mono ?_; rintro e w3 ⟨rfl, hD3, hW3⟩; have hH3 := hH2.wrote hW3 (fun e => fd_ne hD2 hH2 e.symm); have q0 := (cell_of hH3 0).trans rfl; have q0f := free_of hH3 0)
      go_ret2
      exact ⟨rfl, Laid.trans hW1 hat1 (Laid.trans hW2 hat2 (laid_last hH2 hD2 hD3 hW3 _))⟩
end Go.Proofs.YtnkhfdnahnphdaaDoor
end
