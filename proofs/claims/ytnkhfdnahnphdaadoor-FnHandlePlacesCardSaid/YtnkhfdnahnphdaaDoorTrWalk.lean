/- The walk of Truncate on an open file. -/
import Derived.Test.YtnkhfdnahnphdaaDoorWtWalk
import Derived.Test.YtnkhfdnahnphdaaDoorWZeros
import Derived.RegionTactic
namespace Go.Proofs.YtnkhfdnahnphdaaDoor
open Go.ChangeShapes Go.WideShapes Go.ChangeAt Go.RowKit Go.Rd
open Go.Proofs.YtnkhfdnahnphdaaDoorW.PrintWords Go.Proofs.YtnkhfdnahnphdaaDoorW.PrintLast Go.Proofs.YtnkhfdnahnphdaaDoorW.PrintMore

/-- A region's step that appends zeros, by its run. -/
theorem step_append_run2 {P : Program} {w : World} {ops : Array Oper} {o : Oper} {a : Act} {K : Act → World → Prop} {Q : Exit → Act → World → Prop} {E : Prop} (hgd : o.guard = none) (s x : Operand) (t u : TypeId)
    (ho : o.op = .call { callee := .builtin .append, args := #[s, x], argTypes := #[t, u] }) (v y : Value) (hs : a.eval s = v) (hx : a.eval x = y) (R : Value → World → Prop)
    (hrun : ∃ v' w', (Builtin.append_ #[t, u] o.type #[v, y]).run P w = .ok v' w' ∧ R v' w') (h : ∀ v' w', R v' w' → K (a.put o.dst v') w') :
    if Region.wanted o (yielded ops a.tmps) = true then Oper.wp P o a w K Q else E := by
  have hw : Region.wanted o (yielded ops a.tmps) = true := by simp [Region.wanted, hgd]
  rw [if_pos hw]
  obtain ⟨v', w', hr, hR⟩ := hrun
  unfold Oper.wp execOp
  simp only [ho, resolve, invoke, builtin, Sem.run_bind, Sem.run_pure, Result.andThen_ok, List.map_toArray, List.map_cons, List.map_nil, hs, hx, hr]
  exact h v' w' hR

theorem zeros_map (m : Nat) : (Builtin.zeroCells (Value.int .u8 0).cells m).toList = (List.replicate m (0 : Int)).map (Value.int .u8) := by
  have h := Kd.reps_zeros (R := fun (x : Int) (cs : List Value) => cs = [.int .u8 x]) (z := .int .u8 0) (size := 1) (z0 := 0) rfl (by decide) rfl m
  apply List.ext_getElem?
  intro i
  by_cases hi : i < m
  · have h1 := h.2 i 0 (by simp [hi])
    have h2 := congrArg (·[0]?) h1
    simp only [Nat.mul_one, List.getElem?_take_of_lt (Nat.zero_lt_one), List.getElem?_drop, Nat.add_zero] at h2
    rw [h2]
    simp [hi]
  · rw [List.getElem?_eq_none (by rw [h.1]; simp; omega), List.getElem?_eq_none (by simp; omega)]

set_option maxRecDepth 100000 in
set_option maxHeartbeats 2000000 in
theorem trunc_grow (f B fd s : Nat) (x rdc : Int) (dv : Value) (d : FD) (w : World) (hH : HandleIs w f ⟨x, rdc, false, false, fd⟩) (hD : DataIs w B fd dv d) (hs : d.bs.length < s) (hs2 : s ≤ 4294967296) (hB : B ≤ w.heap.size) :
    Calls Tryd.prog 38 #[.pointer (some ⟨f, 0, none⟩), .int .i64 (s : Int)] w fun e w' => e = .returned .nilIface ∧ Laid w w' f B fd ⟨x, rdc, false, false, fd⟩ dv { d with bs := d.bs ++ List.replicate (s - d.bs.length) 0, mt := 0 } := by
  obtain ⟨Ad, cd, rfl⟩ := hD.slice
  obtain ⟨l1, hE⟩ : ∃ l, d.bs ++ List.replicate (s - d.bs.length) 0 = l := ⟨_, rfl⟩
  have hl1 : l1.length = s := by rw [← hE]; simp; omega
  have hf1 : ∀ y ∈ l1, 0 ≤ y ∧ y ≤ 255 := fun y hy => by
    rw [← hE] at hy
    rcases List.mem_append.1 hy with h | h
    · exact hD.2.2 y h
    · rw [(List.mem_replicate.1 h).2]; omega
  have c2 := (cell_of hH 2).trans rfl
  have c3 := (cell_of hH 3).trans rfl
  have c4 := (cell_of hH 4).trans rfl
  have d1 := (cell_of hD.1 1).trans rfl
  have g1 := free_of hD.1 1
  obtain ⟨i0, hi, hzz⟩ := Option.map_eq_some_iff.1 infoU8
  simp only [Prod.mk.injEq] at hzz
  have hR := run_append_zeros (P := Tryd.prog) w.drew B 22 3 22 5 i0 (.int .u8 0) 1 1 Tryd.underlying22 (k := .i64) Tryd.underlying3 hi hzz.1 hzz.2.1 hzz.2.2 rfl (by decide) (by decide) (.slice Ad d.bs.length cd) d.bs.length _ (World.ownsRow.drew hD.2.1) .i64 (s - d.bs.length)
    (by rw [zeros_map]; intro u hu; obtain ⟨z, _, rfl⟩ := List.mem_map.1 hu; rfl) (by omega) hB
  have e1 : ((s - d.bs.length : Nat) : Int) = (s : Int) - d.bs.length := by omega
  have e2 : d.bs.length + (s - d.bs.length) = s := by omega
  rw [zeros_map, ← List.map_append, hE, e1, e2] at hR
  have HR := Lib.hid hR
  rw [hE]
  have HL1 := Lib.hid hl1
  have HF1 := Lib.hid hf1
  clear hE hl1 hf1 hR e1 e2 hzz
  go_enter Tryd.func38, Tryd.ntmps38
  go_upto_region 9 with fail
  go_cut [] (fun wx => Laid w wx f B fd ⟨x, rdc, false, false, fd⟩ (.slice Ad d.bs.length cd) { d with bs := l1 })
  case first =>
    go_region_law (refine step_append_run2 rfl (.tmp 59) (.tmp 60) 22 3 rfl (.slice Ad d.bs.length cd) (.int .i64 ((s : Int) - d.bs.length)) (by simp [Act.eval]) (by simp [Act.eval]) _ HR.out ?_; rintro v1 w1 ⟨ho1, hg1, hat1⟩; obtain ⟨A1, c1, ev1⟩ := own_slice ho1; subst ev1; have hw1 := wrote_grown hg1; have hd1 := (hw1.block fd (lt_of_heap hD.1) (fun e => row_fd hD fd e rfl)).trans hD.1; have hh1 := hH.wrote (w := w.drew) hw1 (fun e => row_fh hD hH f e rfl); have e4 := (cell_of hh1 4).trans rfl; have e1 := (cell_of hd1 1).trans rfl; have e1f := free_of hd1 1)
    all_goals
      go_wp2_with fail
      go_meet
      exact Laid.of_drew <| laid_store (w := w.drew) (l := l1) hH hD ho1 hg1 hat1 HL1.out.symm rfl HF1.out
  case rest =>
    obtain ⟨dv2, hH2, hD2, hW2, hat2⟩ := hcut
    clear c2 c3 c4 d1 g1 HR
    have c4 := (cell_of hH2 4).trans rfl
    go_wp2_with (go_at_call 68; refine (set_mt fd B dv2 _ 0 _ hD2).mono ?_; rintro e w3 ⟨rfl, hD3, hW3⟩)
    go_ret
    exact ⟨rfl, Laid.trans hW2 hat2 ⟨dv2, hH2.wrote hW3 (fun e => fd_ne hD2 hH2 e.symm), hD3, hW3.mono (fun k _ hk => .inr (.inl hk)), .inl rfl⟩⟩

theorem cut_run (A : Option Addr) (n c s : Nat) (h : s ≤ c) (W : World) : (Instr.slice 22 (.slice A n c) (some (.int .i64 0)) (some (.int .i64 (s : Int))) none).run Tryd.prog W = .ok (.slice A s c) W := by
  have hu := Tryd.underlying22
  go_simp

set_option maxRecDepth 100000 in
set_option maxHeartbeats 2000000 in
theorem trunc_cut (f B fd s : Nat) (x rdc : Int) (dv : Value) (d : FD) (w : World) (hH : HandleIs w f ⟨x, rdc, false, false, fd⟩) (hD : DataIs w B fd dv d) (hs : s ≤ d.bs.length) :
    Calls Tryd.prog 38 #[.pointer (some ⟨f, 0, none⟩), .int .i64 (s : Int)] w fun e w' => e = .returned .nilIface ∧ Laid w w' f B fd ⟨x, rdc, false, false, fd⟩ dv { d with bs := d.bs.take s, mt := 0 } := by
  obtain ⟨Ad, cd, rfl⟩ := hD.slice
  have hcap : d.bs.length ≤ cd := own_cap hD.2.1
  have c2 := (cell_of hH 2).trans rfl
  have c3 := (cell_of hH 3).trans rfl
  have c4 := (cell_of hH 4).trans rfl
  have d1 := (cell_of hD.1 1).trans rfl
  have g1 := free_of hD.1 1
  have hrun := cut_run Ad d.bs.length cd s (by omega)
  go_enter Tryd.func38, Tryd.ntmps38
  go_upto_region 10 with fail
  go_cut [] (fun wx => wx = w.drew.setCell ⟨fd, 1, none⟩ (.slice Ad s cd))
  case first =>
    go_region
    all_goals
      go_wp2_with fail
      go_meet
      rfl
  case rest =>
    have hL : Laid w wc f B fd ⟨x, rdc, false, false, fd⟩ (.slice Ad d.bs.length cd) { d with bs := d.bs.take s } := by
      rw [hcut]
      exact Laid.of_drew (laid_store (w := w.drew) (w1 := w.drew) (l := d.bs.take s) hH hD (World.ownsRow.drew (own_take hD.2.1 hs)) ⟨rfl, rfl, rfl, Nat.le_refl _, fun _ _ _ => rfl⟩ (.inl (own_cut Ad s d.bs.length cd)) (by simp; omega) (by simp) (fun y hy => hD.2.2 y (List.mem_of_mem_take hy)))
    clear hcut
    obtain ⟨dv2, hH2, hD2, hW2, hat2⟩ := hL
    clear c2 c3 c4 d1 g1 hrun
    have c4 := (cell_of hH2 4).trans rfl
    go_wp2_with (go_at_call 68; refine (set_mt fd B dv2 _ 0 _ hD2).mono ?_; rintro e w3 ⟨rfl, hD3, hW3⟩)
    go_ret
    exact ⟨rfl, Laid.trans hW2 hat2 ⟨dv2, hH2.wrote hW3 (fun e => fd_ne hD2 hH2 e.symm), hD3, hW3.mono (fun k _ hk => .inr (.inl hk)), .inl rfl⟩⟩

/-- Bytes cut, or filled up with zeros. -/
def cutTo (bs : List Int) (s : Nat) : List Int := bs.take s ++ List.replicate (s - bs.length) 0
theorem trunc_any (f B fd s : Nat) (x rdc : Int) (dv : Value) (d : FD) (w : World) (hH : HandleIs w f ⟨x, rdc, false, false, fd⟩) (hD : DataIs w B fd dv d) (hs2 : s ≤ 4294967296) (hB : B ≤ w.heap.size) :
    Calls Tryd.prog 38 #[.pointer (some ⟨f, 0, none⟩), .int .i64 (s : Int)] w fun e w' => e = .returned .nilIface ∧ Laid w w' f B fd ⟨x, rdc, false, false, fd⟩ dv { d with bs := cutTo d.bs s, mt := 0 } := by
  unfold cutTo
  by_cases h : d.bs.length < s
  · rw [List.take_of_length_le (by omega)]
    exact trunc_grow f B fd s x rdc dv d w hH hD h hs2 hB
  · have e : s - d.bs.length = 0 := by omega
    rw [e, List.replicate_zero, List.append_nil]
    exact trunc_cut f B fd s x rdc dv d w hH hD (by omega)

set_option maxRecDepth 100000 in
set_option maxHeartbeats 2000000 in
theorem on_trunc (f B fd k : Nat) (x rdc : Int) (dv : Value) (d : FD) (s : Stp) (w : World) (hop : s.op = 17) (hoff : s.off = (k : Int)) (hH : HandleIs w f ⟨x, rdc, false, false, fd⟩) (hD : DataIs w B fd dv d) (hk : k ≤ 4294967296) (hB : B ≤ w.heap.size) :
    Calls Tryd.prog 23 #[.pointer (some ⟨f, 0, none⟩), s.val] w fun e w' => e = .returned (ansVal 0 0 0 (.slice none 0 0)) ∧ Laid w w' f B fd ⟨x, rdc, false, false, fd⟩ dv { d with bs := cutTo d.bs k, mt := 0 } := by
  obtain ⟨op, name, other, flag, perm, hh, da, dl, dc, off, wh, n⟩ := s
  simp only at hop hoff
  subst hop hoff
  unfold Stp.val ansVal
  simp only
  have hfl : f < w.heap.size := lt_of_heap hH
  have hfdl : fd < w.heap.size := lt_of_heap hD.1
  have hrow := own_lt hD.2.1
  have hc := trunc_any f B fd k x rdc dv d
  have HC := Lib.hid hc
  clear hc
  go_enter Tryd.func23, Tryd.ntmps23
  go_wp2_with (first
    | (go_at_call 38; refine (HC.out _ (hH.below (below3 _ _ _ _)) (hD.below (below3 _ _ _ _)) hk (by simp; omega)).mono ?_; rintro e w4 ⟨rfl, dv4, hH4, hD4, hW4, hat4⟩; have k1 := keep_new hW4 hfl hfdl hrow (Nat.le_add_right _ 1) (second_new _ _ _ _); have k2 := keep_new hW4 hfl hfdl hrow (by omega) (third_new _ _ _ _); obtain ⟨⟨p0, p1, p2, p3, p4, p5⟩, q0, q1, q2, q3, q4, q5⟩ := cells6 k1; obtain ⟨⟨r0, r1, r2, r3, r4, r5⟩, t0, t1, t2, t3, t4, t5⟩ := cells6 k2; have T1 := Typed.of k1; have T2 := Typed.of k2; clear k1 k2)
    | (go_at_call 46; refine (kind_nil _).mono ?_; rintro e w5 ⟨rfl, rfl⟩))
  refine bodyPost_ret (v := ansVal 0 0 0 (.slice none 0 0)) (by simp [results, Tryd.results23, go_sem, ansVal, p0, p1, p2, p3, p4, p5]) rfl ⟨rfl, ?_⟩
  have hL4 : Laid w w4 f B fd ⟨x, rdc, false, false, fd⟩ dv { d with bs := cutTo d.bs k, mt := 0 } := Laid.trans (Wrote.of_below (below3 _ _ _ _)) (.inl rfl) ⟨dv4, hH4, hD4, hW4, hat4⟩
  repeat (first | with_reducible exact hL4 | (with_reducible refine Laid.set (t := 42) ?_ ?_ (by decide) (by decide) (by decide) ?_ _; rotate_left; (repeat (first | with_reducible exact T1 | with_reducible exact T2 | with_reducible refine Typed.set ?_ _ _)); (simp only []; omega)))
end Go.Proofs.YtnkhfdnahnphdaaDoor
