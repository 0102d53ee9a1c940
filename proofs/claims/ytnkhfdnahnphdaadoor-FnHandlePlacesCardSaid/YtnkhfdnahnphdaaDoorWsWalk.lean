/- The walk of Write on an open file: within the file. -/
import Derived.Test.YtnkhfdnahnphdaaDoorWrWalk
namespace Go.Proofs.YtnkhfdnahnphdaaDoor
open Go.ChangeShapes Go.WideShapes Go.ChangeAt Go.RowKit Go.Rd
open Go.Proofs.YtnkhfdnahnphdaaDoorW.PrintWords Go.Proofs.YtnkhfdnahnphdaaDoorW.PrintLast Go.Proofs.YtnkhfdnahnphdaaDoorW.PrintMore

/-- A row that is known whole is a row of one's own. -/
theorem own_whole {w : World} {B g n cap : Nat} {C : List Value} (hg : w.heap[g]? = some (.cells C.toArray tU8 (0, 0))) (hB : B ≤ g) (hn : n ≤ cap) (hm : cap ≤ maxLen) (hc : C.length = cap) (l : List Int) (hl : C.take n = l.map (Value.int .u8)) (hln : l.length = n) :
    w.ownsRow B tU8 1 (.slice (some ⟨g, 0, none⟩) n cap) n (l.map (Value.int .u8)) :=
  ⟨by simp [hln], .inr ⟨g, cap, C.toArray, rfl, hB, hg, hn, hm, by simp [hc], by simpa using hl⟩⟩
/-- The end of a row that is known whole, as bytes. -/
theorem tail_bytes {w : World} {g k n cap : Nat} {C : List Value} {l : List Int} (hg : w.heap[g]? = some (.cells C.toArray tU8 (0, 0))) (hC : (C.drop k).take n = l.map (Value.int .u8)) (hln : l.length = n) (hn : n ≤ cap) (hm : cap ≤ maxLen) (hl : ∀ c ∈ l, 0 ≤ c ∧ c ≤ 255) :
    BytesIn w (some ⟨g, k, none⟩) n cap l := by
  refine ⟨hln, fun h => (by cases h), hn, hm, fun x hx j u hu => ?_, hl⟩
  cases hx
  rw [addr_add, cell_of hg (k + j), ← hC] at *
  have hj : j < n := by
    have := (List.getElem?_eq_some_iff.1 hu).1
    simp at this; omega
  rw [List.getElem?_take_of_lt hj, List.getElem?_drop] at hu
  simpa using hu

/-- The state behind the first append. -/
def InRel (w wx : World) (f B fd g : Nat) (h : FH) (dv : Value) (d : FD) (C : List Value) : Prop :=
  HandleIs wx f h ∧ DataIs wx B fd dv d ∧ Wrote (fun k => k = f ∨ k = fd ∨ k = g) w wx ∧ wx.heap[g]? = some (.cells C.toArray tU8 (0, 0))

theorem in_store {w w1 : World} {f B fd g n cap : Nat} {h : FH} {dv0 : Value} {d : FD} {l : List Int} {C : List Value} (hH : HandleIs w f h) (hD : DataIs w B fd dv0 d) (hgb : dv0.ownBlock = some g) (hw : Wrote (fun k => k = g) w w1) (hg : w1.heap[g]? = some (.cells C.toArray tU8 (0, 0)))
    (hB : B ≤ g) (hn : n ≤ cap) (hm : cap ≤ maxLen) (hc : C.length = cap) (hl : C.take n = l.map (Value.int .u8)) (hln : l.length = n) (hll : ∀ c ∈ l, 0 ≤ c ∧ c ≤ 255) :
    InRel w (w1.setCell ⟨fd, 1, none⟩ (.slice (some ⟨g, 0, none⟩) n cap)) f B fd g h (.slice (some ⟨g, 0, none⟩) n cap) { d with bs := l } C := by
  have hgf := row_fd hD g hgb
  have hgh := row_fh hD hH g hgb
  have hd1 := (hw.block fd (lt_of_heap hD.1) (fun e => hgf e.symm)).trans hD.1
  have hh1 := hH.wrote hw (fun e => hgh e.symm)
  have hg2 : (w1.setCell ⟨fd, 1, none⟩ (.slice (some ⟨g, 0, none⟩) n cap)).heap[g]? = some (.cells C.toArray tU8 (0, 0)) := setCell_keeps hg hgf _
  subst hln
  exact ⟨hh1.set (p := ⟨fd, 1, none⟩) (fun e => fd_ne hD hH e.symm) _, ⟨Go.Rd.heap_setCell_same (o := 1) hd1 _, own_whole hg2 hB hn hm hc l hl rfl, hll⟩, (hw.mono (fun k _ hk => .inr (.inr hk))).setCell (fun _ => .inr (.inl rfl)) _, hg2⟩

set_option maxRecDepth 100000 in
set_option maxHeartbeats 4000000 in
theorem write_in (f B fd a : Nat) (rdc : Int) (dv : Value) (d : FD) (A : Option Addr) (m c : Nat) (b : List Int) (w : World) (hH : HandleIs w f ⟨(a : Int), rdc, false, false, fd⟩) (hD : DataIs w B fd dv d) (hb : BytesIn w A m c b)
    (hlt : m + a < d.bs.length) (hm2 : d.bs.length ≤ 4294967296) :
    Calls Tryd.prog 35 #[.pointer (some ⟨f, 0, none⟩), .slice A m c] w fun e w' => e = .returned (.tuple #[.int .i64 (m : Int), .nilIface]) ∧ Laid w w' f B fd ⟨(a : Int) + m, rdc, false, false, fd⟩ dv { d with bs := d.bs.take a ++ b ++ d.bs.drop (a + m), mt := 0 } := by
  obtain ⟨g, cd, cur, rfl, hBg, hcur, hncd, hcm, hsz, htk⟩ : ∃ g cap cur, dv = .slice (some ⟨g, 0, none⟩) d.bs.length cap ∧ B ≤ g ∧ w.heap[g]? = some (.cells cur tU8 (0, 0)) ∧ d.bs.length ≤ cap ∧ cap ≤ maxLen ∧ cur.size = cap * 1 ∧ cur.toList.take (d.bs.length * 1) = d.bs.map (Value.int .u8) := by
    rcases hD.2.1.2 with ⟨_, h0⟩ | ⟨g, cap, cur, h⟩
    · omega
    · exact ⟨g, cap, cur, h⟩
  rw [Nat.mul_one] at hsz htk
  have hbl := hb.len
  obtain ⟨l1, hE1⟩ : ∃ l1, d.bs.take a ++ b = l1 := ⟨_, rfl⟩
  obtain ⟨l2, hE2⟩ : ∃ l2, d.bs.drop (a + m) = l2 := ⟨_, rfl⟩
  obtain ⟨C, hC⟩ : ∃ C, cur.toList.take a ++ b.map (Value.int .u8) ++ cur.toList.drop (a + m) = C := ⟨_, rfl⟩
  have hl1 : l1.length = a + m := by rw [← hE1]; simp [hbl]; omega
  have hl2 : l2.length = d.bs.length - (m + a) := by rw [← hE2]; simp; omega
  have hCl : C.length = cd := by rw [← hC]; simp [hbl]; omega
  have hta : cur.toList.take a = (d.bs.take a).map (Value.int .u8) := by
    have := congrArg (List.take a) htk
    rw [List.take_take, Nat.min_eq_left (by omega), ← List.map_take] at this
    exact this
  have hC1 : C.take (a + m) = l1.map (Value.int .u8) := by
    rw [← hC, ← hE1, hta, List.map_append, List.take_append_of_le_length (by simp [hbl]; omega), List.take_of_length_le (by simp [hbl]; omega)]
  have hC2 : (C.drop (m + a)).take (d.bs.length - (m + a)) = l2.map (Value.int .u8) := by
    rw [← hC, ← hE2, List.drop_append, List.drop_eq_nil_of_le (by simp [hbl]; omega), List.nil_append, List.map_drop, ← htk, List.drop_take]
    have e1 : m + a - (cur.toList.take a ++ b.map (Value.int .u8)).length = 0 := by simp [hbl]; omega
    rw [e1, List.drop_zero, Nat.add_comm m a]
  have hf1 : ∀ x ∈ l1, 0 ≤ x ∧ x ≤ 255 := fun x hx => by
    rw [← hE1] at hx
    rcases List.mem_append.1 hx with h | h
    · exact hD.2.2 x (List.mem_of_mem_take h)
    · exact hb.fits x h
  have hf2 : ∀ x ∈ l2, 0 ≤ x ∧ x ≤ 255 := fun x hx => by
    rw [← hE2] at hx
    exact hD.2.2 x (List.mem_of_mem_drop hx)
  rw [hE1, hE2]
  have hR := run_room (P := Tryd.prog) (w := w.drew) 22 22 5 Tryd.underlying22 infoU8 g a cd cur hcur hcm hsz A m c b (hb.below ((Below.refl _ _).drew)) (by omega)
  rw [hC] at hR
  have HC := Lib.hid hC
  have HCl := Lib.hid hCl
  have HC1 := Lib.hid hC1
  have HC2 := Lib.hid hC2
  have HL1 := Lib.hid hl1
  have HL2 := Lib.hid hl2
  have hl1' : l1.length ≤ 4294967296 := by omega
  have HF1 := Lib.hid hf1
  have HF2 := Lib.hid hf2
  have HR : Hid (∃ v' w', (Builtin.append_ #[22, 22] 22 #[.slice (some ⟨g, 0, none⟩) a cd, .slice A m c]).run Tryd.prog w.drew = .ok v' w' ∧ (v' = .slice (some ⟨g, 0, none⟩) (a + m) cd ∧ w'.heap[g]? = some (.cells C.toArray tU8 (0, 0)) ∧ Wrote (fun k => k = g) w w')) := by
    obtain ⟨w', h1, h2, h3, _⟩ := hR
    exact ⟨_, w', h1, rfl, h2, ⟨h3.os, h3.tape, h3.output, h3.size, h3.block⟩⟩
  clear hE1 hE2 hC hl1 hl2 hCl hta hC1 hC2 hf1 hf2 hR hsz htk hbl
  have c0 := (cell_of hH 0).trans rfl
  have c2 := (cell_of hH 2).trans rfl
  have c3 := (cell_of hH 3).trans rfl
  have c4 := (cell_of hH 4).trans rfl
  have d1 := (cell_of hD.1 1).trans rfl
  have f0 := free_of hH 0
  have g1 := free_of hD.1 1
  have hac : a ≤ cd := by omega
  have hne : (cd = m + a) = False := eq_false (by omega)
  have hle : m + a ≤ d.bs.length := by omega
  have hgf := row_fd hD g rfl
  have hgh := row_fh hD hH g rfl
  go_enter Tryd.func35, Tryd.ntmps35
  go_upto_region 14 with fail
  go_cut [] (fun wx => InRel w wx f B fd g ⟨(a : Int), rdc, false, false, fd⟩ (.slice (some ⟨g, 0, none⟩) (a + m) cd) { d with bs := l1 } C)
  case first =>
    go_region_law (refine step_append_run rfl (.tmp 115) (.tmp 116) 22 rfl (.slice (some ⟨g, 0, none⟩) a cd) (.slice A m c) (by simp [Act.eval, Act.put]) (by simp [Act.eval, Act.put]) _ HR.out ?_; rintro v1 w1 ⟨ev1, hg1, hw1⟩; subst ev1; have hd1 := (hw1.block fd (lt_of_heap hD.1) (fun e => hgf e.symm)).trans hD.1; have hh1 := hH.wrote hw1 (fun e => hgh e.symm); have e4 := (cell_of hh1 4).trans rfl; have e1 := (cell_of hd1 1).trans rfl; have e1f := free_of hd1 1)
    all_goals
      go_wp2_with fail
      go_meet
      exact in_store hH hD rfl hw1 hg1 hBg (by omega) hcm HCl.out HC1.out HL1.out HF1.out
  case rest =>
    obtain ⟨hH1, hD1, hW1, hg1⟩ := hcut
    clear c0 c2 c3 c4 d1 f0 g1 HR
    have c0 := (cell_of hH1 0).trans rfl
    have c4 := (cell_of hH1 4).trans rfl
    have d1 := (cell_of hD1.1 1).trans rfl
    have f0 := free_of hH1 0
    have g1 := free_of hD1.1 1
    have hR := run_room (P := Tryd.prog) (w := wc.drew) 22 22 5 Tryd.underlying22 infoU8 g (a + m) cd C.toArray hg1 hcm (by simp [HCl.out]) (some ⟨g, m + a, none⟩) (d.bs.length - (m + a)) (cd - (m + a)) l2 ((tail_bytes hg1 HC2.out HL2.out (by omega) (by omega) HF2.out).below ((Below.refl _ _).drew)) (by omega)
    have HR : Hid (∃ v' w', (Builtin.append_ #[22, 22] 22 #[.slice (some ⟨g, 0, none⟩) (a + m) cd, .slice (some ⟨g, m + a, none⟩) (d.bs.length - (m + a)) (cd - (m + a))]).run Tryd.prog wc.drew = .ok v' w' ∧ (v' = .slice (some ⟨g, 0, none⟩) d.bs.length cd ∧ w'.heap[g]? = some (.cells (C.take (a + m) ++ l2.map (Value.int .u8) ++ C.drop d.bs.length).toArray tU8 (0, 0)) ∧ Wrote (fun k => k = g) wc w')) := by
      obtain ⟨w', h1, h2, h3, _⟩ := hR
      have e : a + m + (d.bs.length - (m + a)) = d.bs.length := by omega
      rw [e] at h1 h2
      exact ⟨_, w', h1, rfl, h2, ⟨h3.os, h3.tape, h3.output, h3.size, h3.block⟩⟩
    obtain ⟨C2, hE2⟩ : ∃ C2, C.take (a + m) ++ l2.map (Value.int .u8) ++ C.drop d.bs.length = C2 := ⟨_, rfl⟩
    have hC2l : C2.length = cd := by rw [← hE2]; simp [HCl.out, HL2.out]; omega
    have hC2t : C2.take d.bs.length = (l1 ++ l2).map (Value.int .u8) := by
      rw [← hE2, HC1.out, ← List.map_append, List.take_append_of_le_length (by simp [HL1.out, HL2.out]; omega), List.take_of_length_le (by simp [HL1.out, HL2.out]; omega)]
    have hl12 : (l1 ++ l2).length = d.bs.length := by simp [HL1.out, HL2.out]; omega
    have hf12 : ∀ x ∈ l1 ++ l2, 0 ≤ x ∧ x ≤ 255 := fun x hx => by
      rcases List.mem_append.1 hx with h | h
      · exact HF1.out x h
      · exact HF2.out x h
    rw [hE2] at HR
    have HA := Lib.hid hC2l
    have HB2 := Lib.hid hC2t
    have HC3 := Lib.hid hl12
    have HD3 := Lib.hid hf12
    clear hR hE2 hC2l hC2t hl12 hf12
    go_upto_region 15 with fail
    go_cut [] (fun wx => InRel wc wx f B fd g ⟨(a : Int), rdc, false, false, fd⟩ (.slice (some ⟨g, 0, none⟩) d.bs.length cd) { d with bs := l1 ++ l2 } C2)
    case first =>
      go_region_law (refine step_append_run rfl (.tmp 130) (.tmp 131) 22 rfl (.slice (some ⟨g, 0, none⟩) (a + m) cd) (.slice (some ⟨g, m + a, none⟩) (d.bs.length - (m + a)) (cd - (m + a))) (by simp [Act.eval]) (by simp [Act.eval]) _ HR.out ?_; rintro v1 w1 ⟨ev1, hg2, hw1⟩; subst ev1; have hd1 := (hw1.block fd (lt_of_heap hD1.1) (fun e => hgf e.symm)).trans hD1.1; have hh1 := hH1.wrote hw1 (fun e => hgh e.symm); have e4 := (cell_of hh1 4).trans rfl; have e1 := (cell_of hd1 1).trans rfl; have e1f := free_of hd1 1)
      all_goals
        go_wp2_with fail
        go_meet
        exact in_store (d := { d with bs := l1 }) hH1 hD1 rfl hw1 hg2 hBg hncd hcm HA.out HB2.out HC3.out HD3.out
    case rest =>
      obtain ⟨hH2, hD2, hW2, hg2⟩ := hcut
      clear c0 c4 d1 f0 g1 HR
      have c4 := (cell_of hH2 4).trans rfl
      go_wp2_with (go_at_call 68; refine (set_mt fd B _ _ 0 _ hD2).mono ?_; rintro e w3 ⟨rfl, hD3, hW3⟩; have hH3 := hH2.wrote hW3 (fun e => fd_ne hD2 hH2 e.symm); have q0 := (cell_of hH3 0).trans rfl; have q0f := free_of hH3 0)
      go_ret2
      have hS : ∀ (k : Nat), (k = f ∨ k = fd ∨ k = g) → (k = f ∨ k = fd ∨ (Value.slice (some ⟨g, 0, none⟩) d.bs.length cd).ownBlock = some k) := fun k hk => by
        rcases hk with e | e | e
        · exact .inl e
        · exact .inr (.inl e)
        · exact .inr (.inr (by subst e; rfl))
      exact ⟨rfl, Laid.trans (hW1.mono (fun k _ hk => hS k hk)) (.inl rfl) (Laid.trans (hW2.mono (fun k _ hk => hS k hk)) (.inl rfl) (laid_last hH2 hD2 hD3 hW3 _))⟩
end Go.Proofs.YtnkhfdnahnphdaaDoor
