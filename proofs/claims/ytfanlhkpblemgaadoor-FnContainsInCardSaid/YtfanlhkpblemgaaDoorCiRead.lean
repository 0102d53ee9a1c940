/- Read on an open file, in this seat. -/
import Derived.Test.YtfanlhkpblemgaaDoorFl
import Derived.RegionTactic
import Derived.IntWalk
import Derived.Outline
import Derived.Deep.QuietTactic
import Derived.BigQuiet
import Derived.Deep.RegionLaw
namespace Go.Proofs.YtfanlhkpblemgaaDoor
open Go.ChangeShapes Go.WideShapes Go.ChangeAt Go.RowKit Go.Rd
open Go.Proofs.YtfanlhkpblemgaaDoorW.PrintWords Go.Proofs.YtfanlhkpblemgaaDoorW.PrintLast Go.Proofs.YtfanlhkpblemgaaDoorW.PrintMore
set_option linter.unusedVariables false

/-- Nothing but draws. -/
def Drew (w w' : World) : Prop := ∃ n, w' = w.drewN n
theorem Drew.mk2 (w : World) (a b : Nat) : Drew w ((w.drewN a).drewN b) := ⟨a + b, by rw [World.drewN_drewN]⟩
theorem Drew.mk3 (w : World) (a b c : Nat) : Drew w (((w.drewN a).drewN b).drewN c) := ⟨a + (b + c), by rw [World.drewN_drewN, World.drewN_drewN]⟩
theorem infoU8 : (Tryd.prog.info? 5).map (fun i => (i.zero, i.size, i.bytes)) = some (some (.int .u8 0), 1, 1) := by kernel_rfl
theorem C_of_bytes' {w : World} {A : Option Addr} {n c : Nat} {l : List Int} (h : BytesIn w A n c l) : Kd.C (Kd.int .u8) w A n l := by
  refine ⟨h.len, by have := h.le; have := h.max; simp [maxLen] at this; omega, fun hn => ?_⟩
  cases A with
  | none => have := (h.nil rfl).1; omega
  | some ad =>
    refine ⟨ad, rfl, fun j p hj => ⟨[.int .u8 p], rfl, rfl, fun i u hu => ?_⟩⟩
    have hi : i = 0 := by
      have := (List.getElem?_eq_some_iff.1 hu).1
      simp at this; omega
    subst hi
    cases hu
    have e : j * (Kd.int IntKind.u8).sz + 0 = j := by
      have : (Kd.int IntKind.u8).sz = 1 := rfl
      rw [this]; omega
    rw [e]
    exact h.cells ad rfl j _ (by simp [hj])
theorem C_str {w : World} {A : Option Addr} {n c : Nat} {l : List Int} (h : Kd.C (Kd.int .u8) w A n l) : ∀ j, (convert 22 9 (.slice A n c)).run Tryd.prog (w.drewN j) = .ok (.string (strOfNums l)) (w.drewN j) :=
  fun j => Kd.C_string Tryd.underlying22 Tryd.underlying5 Tryd.underlying9 (Kd.C_drewN h j)
/-- A part of bytes, and what it reads as. -/
theorem mid_run {w : World} {A : Option Addr} {n c : Nat} {l : List Int} (h : BytesIn w A n c l) (a b : Nat) (hab : a ≤ b) (hb : b ≤ n) :
    ∃ A', (∀ W : World, (Instr.slice 22 (.slice A n c) (some (.int .i64 (a : Int))) (some (.int .i64 (b : Int))) none).run Tryd.prog W = .ok (.slice A' ((l.take b).drop a).length (c - a)) W) ∧ Kd.C (Kd.int .u8) w A' ((l.take b).drop a).length ((l.take b).drop a) := by
  obtain ⟨i0, hi, hzz⟩ := Option.map_eq_some_iff.1 infoU8
  simp only [Prod.mk.injEq] at hzz
  obtain ⟨A', h1, h2, _⟩ := print_mid_int (P := Tryd.prog) (k := .u8) 22 5 Tryd.underlying22 hi hzz.2.1 A c l (a : Int) (b : Int) (by omega) (by omega) (by have := h.len; omega) (by have := h.len; have := h.le; omega)
  rw [h.len] at h1 h2
  simp only [Int.toNat_natCast] at h1 h2
  exact ⟨A', h1, Kd.C_of_reads (d := (0 : Int)) (h1 := fun _ => rfl) (h2 w (Kd.reads_of_C (enc := Value.int .u8) (d := (0 : Int)) (h1 := fun _ => rfl) (C_of_bytes' h)))⟩

theorem mid_run' {w : World} {A : Option Addr} {n c : Nat} {l : List Int} (h : BytesIn w A n c l) (a k : Nat) (r : List Int) (hb : a + k ≤ n) (hr : (l.take (a + r.length)).drop a = r) (hk : r.length = k) :
    ∃ A', (∀ W : World, (Instr.slice 22 (.slice A n c) (some (.int .i64 (a : Int))) (some (.int .i64 ((a : Int) + k))) none).run Tryd.prog W = .ok (.slice A' k (c - a)) W) ∧ Kd.C (Kd.int .u8) w A' k r := by
  subst hk
  obtain ⟨A', h1, h2⟩ := mid_run h a (a + r.length) (by omega) hb
  rw [hr, Int.natCast_add] at h1
  rw [hr] at h2
  exact ⟨A', h1, h2⟩

/-- A region's step that copies, by its run. -/
theorem step_copy_run {P : Program} {w : World} {ops : Array Oper} {o : Oper} {a : Act} {K : Act → World → Prop} {Q : Exit → Act → World → Prop} {E : Prop} (hgd : o.guard = none) (s x : Operand) (t u : TypeId)
    (ho : o.op = .call { callee := .builtin .copy, args := #[s, x], argTypes := #[t, u] }) (v y : Value) (hs : a.eval s = v) (hx : a.eval x = y) (R : Value → World → Prop)
    (hrun : ∃ v' w', (Builtin.copy_ #[t, u] o.type #[v, y]).run P w = .ok v' w' ∧ R v' w') (h : ∀ v' w', R v' w' → K (a.put o.dst v') w') :
    if Region.wanted o (yielded ops a.tmps) = true then Oper.wp P o a w K Q else E := by
  have hw : Region.wanted o (yielded ops a.tmps) = true := by simp [Region.wanted, hgd]
  rw [if_pos hw]
  obtain ⟨v', w', hr, hR⟩ := hrun
  unfold Oper.wp execOp
  simp only [ho, resolve, invoke, builtin, Sem.run_bind, Sem.run_pure, Result.andThen_ok, List.map_toArray, List.map_cons, List.map_nil, hs, hx, hr]
  exact h v' w' hR

/-- The copy of what is read: bytes that lie somewhere over a row that is known whole. -/
theorem copy_bytes {w : World} (ty : TypeId) (g o m c n cs : Nat) (cur : Array Value) (t : TypeId) (hg : w.heap[g]? = some (.cells cur t (0, 0))) (hfit : o + m ≤ cur.size) (hnm : n ≤ m) (A : Option Addr) (r : List Int) (hC : Kd.C (Kd.int .u8) w A n r) :
    ∃ v' w', (Builtin.copy_ #[22, 22] ty #[.slice (some ⟨g, o, none⟩) m c, .slice A n cs]).run Tryd.prog w = .ok v' w' ∧ v' = .int .i64 (n : Int) ∧
      w'.heap[g]? = some (.cells (splice cur.toList o (r.map (Value.int .u8))).toArray t (0, 0)) ∧ Wrote (fun k => k = g) w w' ∧ w'.heap.size = w.heap.size := by
  have hs : (Tryd.prog.info? 5).map (·.size) = some 1 := by kernel_rfl
  have hrl : r.length = n := hC.1
  by_cases h0 : n = 0
  · subst h0
    obtain rfl : r = [] := List.eq_nil_of_length_eq_zero hrl
    refine ⟨_, w, run_copy_none (P := Tryd.prog) w 22 22 ty 5 _ _ m c 0 cs Tryd.underlying22 hs (by simp), rfl, ?_, Wrote.refl _ _, rfl⟩
    rw [hg]; simp [splice]
  · obtain ⟨ad, rfl, _⟩ := C_cell hC 0 (by omega)
    have hsrc : ∀ j v, (r.map (Value.int .u8))[j]? = some v → w.cell? (ad.add j) = some v := fun j v hv => by
      simp only [List.getElem?_map, Option.map_eq_some_iff] at hv
      obtain ⟨x, hx, rfl⟩ := hv
      obtain ⟨hj, rfl⟩ := List.getElem?_eq_some_iff.1 hx
      obtain ⟨ad2, e2, h2⟩ := C_cell hC j hj
      cases e2
      exact h2
    obtain ⟨w', h1, h2, h3, h4⟩ := copy_run (P := Tryd.prog) (w := w) (dT := 22) (sT := 22) (elem := 5) ty g o m c n cs ad cur t (r.map (Value.int .u8)) Tryd.underlying22 hs hg (by simp [hrl, Nat.min_eq_left hnm]) hsrc (by simp [hrl]; omega) (by intro v hv; obtain ⟨x, _, rfl⟩ := List.mem_map.1 hv; rfl)
    refine ⟨_, w', h1, by simp [hrl], h2, h3, h4⟩

set_option maxRecDepth 100000 in
set_option maxHeartbeats 2000000 in
theorem read_some (g o m c : Nat) (cur : Array Value) (t : TypeId) (f B fd a n : Nat) (rdc : Int) (ro : Bool) (dv : Value) (d : FD) (w : World) (hG : w.heap[g]? = some (.cells cur t (0, 0))) (hgf : g ≠ f) (hgd : g ≠ fd) (hgr : ∀ k, dv.ownBlock = some k → k ≠ g) (hfit : o + m ≤ cur.size)
    (hH : HandleIs w f ⟨(a : Int), rdc, false, ro, fd⟩) (hD : DataIs w B fd dv d) (ha : a ≤ d.bs.length) (hne : m = 0 ∨ a < d.bs.length) (hn : n = min m (d.bs.length - a)) (hm : m ≤ 4294967296) (hl : d.bs.length ≤ 4294967296) :
    Calls Tryd.prog 61 #[.pointer (some ⟨f, 0, none⟩), .slice (some ⟨g, o, none⟩) m c] w fun e w' => e = .returned (.tuple #[.int .i64 (n : Int), .nilIface]) ∧ HandleIs w' f ⟨(a : Int) + (n : Int), rdc, false, ro, fd⟩ ∧ DataIs w' B fd dv d ∧
      w'.heap[g]? = some (.cells (splice cur.toList o (((d.bs.drop a).take n).map (Value.int .u8))).toArray t (0, 0)) ∧ Wrote (fun k => k = f ∨ k = g) w w' := by
  obtain ⟨Ad, cd, rfl⟩ := hD.slice
  have hb := (BytesIn.own (show w.ownsRow B tU8 1 (.slice Ad d.bs.length cd) d.bs.length (d.bs.map (Value.int .u8)) from hD.2.1) hD.2.2)
  obtain ⟨A0, k0, e0, hb⟩ := hb
  injection e0 with e01 e02 e03
  subst e01 e03
  have c0 := (cell_of hH 0).trans rfl
  have c2 := (cell_of hH 2).trans rfl
  have c4 := (cell_of hH 4).trans rfl
  have d1 := (cell_of hD.1 1).trans rfl
  have f0 := free_of hH 0
  have hna : a + n ≤ d.bs.length := by omega
  obtain ⟨A', hs1, hC⟩ := mid_run' hb a n ((d.bs.drop a).take n) hna (by
    have e : ((d.bs.drop a).take n).length = n := by simp; omega
    rw [e, List.take_drop]) (by simp; omega)
  have hnm : n ≤ m := by omega
  have hcp : ∀ ty (W : World), W.heap[g]? = some (.cells cur t (0, 0)) → Below w.heap.size w W → ∃ v' w', (Builtin.copy_ #[22, 22] ty #[.slice (some ⟨g, o, none⟩) m c, .slice A' n (cd - a)]).run Tryd.prog W = .ok v' w' ∧ v' = .int .i64 (n : Int) ∧
      w'.heap[g]? = some (.cells (splice cur.toList o (((d.bs.drop a).take n).map (Value.int .u8))).toArray t (0, 0)) ∧ Wrote (fun k => k = g) W w' ∧ w'.heap.size = W.heap.size :=
    fun ty W h1 h2 => copy_bytes ty g o m c n (cd - a) cur t h1 hfit hnm A' _ (Kd.C_below hC h2)
  obtain ⟨CR, hCR⟩ : ∃ CR, (splice cur.toList o (((d.bs.drop a).take n).map (Value.int .u8))).toArray = CR := ⟨_, rfl⟩
  rw [hCR] at hcp ⊢
  clear hCR
  have HCP := Lib.hid hcp
  have HNA := Lib.hid hn
  clear hcp hC hb hn
  by_cases hle : m ≤ d.bs.length - a
  · obtain rfl : n = m := by have := HNA.out; omega
    have hle2 : (n : Int) ≤ (d.bs.length : Int) - (a : Int) := by omega
    by_cases hlt : 0 < n
    · have e1 : ((a : Int) == (d.bs.length : Int)) = false := beq_eq_false_iff_ne.2 (by omega)
      have hal : a < d.bs.length := by omega
      have hlt' : decide (0 < n) = true := decide_eq_true hlt
      clear hne
      go_enter Tryd.func61, Tryd.ntmps61
      go_wp2_with fail
      go_quiet (fail)
      go_wp2_with fail
      go_quiet (fail)
      go_wp2_with fail
      go_quiet (fail)
      go_wp2_with fail
      have q1 : IntKind.i64.wrap ((a : Int) + (n : Int)) = (a : Int) + (n : Int) := IntWalk.i64_in _ (by omega)
      go_region_law (refine step_copy_run rfl (.tmp 75) (.tmp 93) 22 22 rfl (.slice (some ⟨g, o, none⟩) n c) (.slice A' n (cd - a)) (by simp [Act.eval, Act.put]) (by simp [Act.eval, Act.put]) _ (HCP.out _ _ hG ⟨rfl, rfl, rfl, Nat.le_refl _, fun _ _ => rfl⟩) ?_; rintro v1 w1 ⟨rfl, hg1, hw1, hz1⟩)
      all_goals
        have hW1 : Wrote (fun k => k = g) w w1 := ⟨hw1.os, hw1.tape, hw1.output, hw1.size, hw1.block⟩
        have hH1 := hH.wrote hW1 (fun e => hgf e.symm)
        have q0 := (cell_of hH1 0).trans rfl
        have q0f := free_of hH1 0
        go_wp2_with fail
        go_ret2
        exact ⟨rfl, Go.Rd.heap_setCell_same (o := 0) hH1 _, (hD.wrote hW1 (fun e => hgd e.symm) (fun k hk e => hgr k hk e)).wrote (wrote_set w1 f 0 _) (fun e => fd_ne hD hH e) (fun k hk e => row_fh hD hH k hk e), setCell_keeps hg1 hgf _, (hW1.mono (fun k _ hk => .inr hk)).setCell (fun _ => .inl rfl) _⟩
    · have hlt' : decide (0 < n) = false := decide_eq_false hlt
      clear hne
      go_enter Tryd.func61, Tryd.ntmps61
      go_wp2_with fail
      go_quiet (fail)
      go_wp2_with fail
      go_quiet (fail)
      go_wp2_with fail
      go_quiet (fail)
      go_wp2_with fail
      have q1 : IntKind.i64.wrap ((a : Int) + (n : Int)) = (a : Int) + (n : Int) := IntWalk.i64_in _ (by omega)
      go_region_law (refine step_copy_run rfl (.tmp 75) (.tmp 93) 22 22 rfl (.slice (some ⟨g, o, none⟩) n c) (.slice A' n (cd - a)) (by simp [Act.eval, Act.put]) (by simp [Act.eval, Act.put]) _ (HCP.out _ _ hG ⟨rfl, rfl, rfl, Nat.le_refl _, fun _ _ => rfl⟩) ?_; rintro v1 w1 ⟨rfl, hg1, hw1, hz1⟩)
      all_goals
        have hW1 : Wrote (fun k => k = g) w w1 := ⟨hw1.os, hw1.tape, hw1.output, hw1.size, hw1.block⟩
        have hH1 := hH.wrote hW1 (fun e => hgf e.symm)
        have q0 := (cell_of hH1 0).trans rfl
        have q0f := free_of hH1 0
        go_wp2_with fail
        go_ret2
        exact ⟨rfl, Go.Rd.heap_setCell_same (o := 0) hH1 _, (hD.wrote hW1 (fun e => hgd e.symm) (fun k hk e => hgr k hk e)).wrote (wrote_set w1 f 0 _) (fun e => fd_ne hD hH e) (fun k hk e => row_fh hD hH k hk e), setCell_keeps hg1 hgf _, (hW1.mono (fun k _ hk => .inr hk)).setCell (fun _ => .inl rfl) _⟩
  · have hlt : 0 < m := by omega
    have hal : a < d.bs.length := by omega
    have hnl : n < m := by have := HNA.out; omega
    · have e1 : ((a : Int) == (d.bs.length : Int)) = false := beq_eq_false_iff_ne.2 (by omega)
      have hlt' : decide (0 < m) = true := decide_eq_true hlt
      have q2 : IntKind.i64.wrap ((d.bs.length : Int) - (a : Int)) = (n : Int) := by
        have := HNA.out
        rw [show (d.bs.length : Int) - (a : Int) = (n : Int) by omega]
        exact IntWalk.i64_in _ (by omega)
      clear hne hle
      go_enter Tryd.func61, Tryd.ntmps61
      go_wp2_with fail
      go_quiet (fail)
      go_wp2_with fail
      go_quiet (fail)
      go_wp2_with fail
      go_quiet (fail)
      go_wp2_with fail
      go_quiet (fail)
      go_wp2_with fail
      have q1 : IntKind.i64.wrap ((a : Int) + (n : Int)) = (a : Int) + (n : Int) := IntWalk.i64_in _ (by omega)
      go_region_law (refine step_copy_run rfl (.tmp 75) (.tmp 93) 22 22 rfl (.slice (some ⟨g, o, none⟩) m c) (.slice A' n (cd - a)) (by simp [Act.eval, Act.put]) (by simp [Act.eval, Act.put]) _ (HCP.out _ _ hG ⟨rfl, rfl, rfl, Nat.le_refl _, fun _ _ => rfl⟩) ?_; rintro v1 w1 ⟨rfl, hg1, hw1, hz1⟩)
      all_goals
        have hW1 : Wrote (fun k => k = g) w w1 := ⟨hw1.os, hw1.tape, hw1.output, hw1.size, hw1.block⟩
        have hH1 := hH.wrote hW1 (fun e => hgf e.symm)
        have q0 := (cell_of hH1 0).trans rfl
        have q0f := free_of hH1 0
        go_wp2_with fail
        go_ret2
        exact ⟨rfl, Go.Rd.heap_setCell_same (o := 0) hH1 _, (hD.wrote hW1 (fun e => hgd e.symm) (fun k hk e => hgr k hk e)).wrote (wrote_set w1 f 0 _) (fun e => fd_ne hD hH e) (fun k hk e => row_fh hD hH k hk e), setCell_keeps hg1 hgf _, (hW1.mono (fun k _ hk => .inr hk)).setCell (fun _ => .inl rfl) _⟩

set_option maxRecDepth 100000 in
set_option maxHeartbeats 2000000 in
theorem read_end (A : Option Addr) (m c : Nat) (f B fd : Nat) (rdc : Int) (ro : Bool) (E : Value) (dv : Value) (d : FD) (w : World) (s1 : w.cell? ⟨8, 0, none⟩ = some E)
    (hH : HandleIs w f ⟨(d.bs.length : Int), rdc, false, ro, fd⟩) (hD : DataIs w B fd dv d) (hm : 0 < m) (hm2 : m ≤ 4294967296) (hl : d.bs.length ≤ 4294967296) :
    Calls Tryd.prog 61 #[.pointer (some ⟨f, 0, none⟩), .slice A m c] w fun e w' => e = .returned (.tuple #[.int .i64 0, E]) ∧ Drew w w' := by
  obtain ⟨Ad, cd, rfl⟩ := hD.slice
  have c0 := (cell_of hH 0).trans rfl
  have c2 := (cell_of hH 2).trans rfl
  have c4 := (cell_of hH 4).trans rfl
  have d1 := (cell_of hD.1 1).trans rfl
  have hlt' : decide (0 < m) = true := decide_eq_true hm
  have e1 : ((d.bs.length : Int) == (d.bs.length : Int)) = true := by simp
  go_enter Tryd.func61, Tryd.ntmps61
  go_wp2_with fail
  go_quiet (fail)
  go_wp2_with fail
  go_quiet (fail)
  go_wp2_with fail
  go_ret2
  first | exact ⟨rfl, Drew.mk2 _ _ _⟩ | exact ⟨rfl, Drew.mk3 _ _ _ _⟩

end Go.Proofs.YtfanlhkpblemgaaDoor
