/- Parts of the proof, merged: WlWalk, UaWalk, WaWalk, ReWalk, RfWalk, UbWalk, UcWalk, UmPlain. -/
import Derived.IntWalk
import Derived.Outline
import Derived.RegionTactic
import Derived.Test.YtnkhfdnahnphdaaDoorRows
import Derived.Test.YtnkhfdnahnphdaaDoorZc04
import Derived.Test.YtnkhfdnahnphdaaDoorZc05
import Derived.Test.YtnkhfdnahnphdaaDoorZc06
section
namespace Go.Proofs.YtnkhfdnahnphdaaDoor
open Go.ChangeShapes Go.WideShapes Go.ChangeAt Go.RowKit Go.Rd
set_option linter.unusedVariables false
open Go.Proofs.YtnkhfdnahnphdaaDoorW.PrintWords Go.Proofs.YtnkhfdnahnphdaaDoorW.PrintLast Go.Proofs.YtnkhfdnahnphdaaDoorW.PrintMore
theorem lay_over {bs b : List Int} {a : Nat} (h : a ≤ bs.length) : lay bs a b = over bs a b := by
  unfold lay over sized
  rw [show a - bs.length = 0 by omega, List.replicate_zero, List.append_nil]
theorem lay_gap {bs b : List Int} {a k : Nat} (h : a = bs.length + k) : lay bs a b = bs ++ (List.replicate k 0 ++ b) := by
  unfold lay sized
  rw [List.take_of_length_le (by omega), List.drop_eq_nil_of_le (by omega), show a - bs.length = k by omega, List.append_nil, List.append_assoc]
theorem lay_length (bs b : List Int) (a : Nat) : (lay bs a b).length = max bs.length (a + b.length) := by
  unfold lay sized; simp; omega
theorem write_all (f B fd a : Nat) (rdc : Int) (dv : Value) (d : FD) (A : Option Addr) (m c : Nat) (b : List Int) (w : World) (hH : HandleIs w f ⟨(a : Int), rdc, false, false, fd⟩) (hD : DataIs w B fd dv d) (hb : BytesIn w A m c b)
    (ha : a ≤ 4294967296) (hm : m ≤ 4294967296) (hm2 : d.bs.length ≤ 4294967296) (hB : B ≤ w.heap.size) :
    Calls Tryd.prog 35 #[.pointer (some ⟨f, 0, none⟩), .slice A m c] w fun e w' => e = .returned (.tuple #[.int .i64 (m : Int), .nilIface]) ∧ Laid w w' f B fd ⟨(a : Int) + m, rdc, false, false, fd⟩ dv { d with bs := lay d.bs a b, mt := 0 } := by
  by_cases h : a ≤ d.bs.length
  · rw [lay_over h]
    exact write_any f B fd a rdc dv d A m c b w hH hD hb h hm hm2 hB
  · obtain ⟨k, hk⟩ : ∃ k, a = d.bs.length + k := ⟨a - d.bs.length, by omega⟩
    rw [lay_gap hk]
    exact write_gap f B fd a k rdc dv d A m c b w hH hD hb hk (by omega) hm ha hB
set_option maxHeartbeats 1000000 in
theorem write_at_all (f B fd a : Nat) (x rdc : Int) (dv : Value) (d : FD) (A : Option Addr) (m c : Nat) (b : List Int) (w : World) (hH : HandleIs w f ⟨x, rdc, false, false, fd⟩) (hD : DataIs w B fd dv d) (hb : BytesIn w A m c b) (hbf : ∀ y, A = some y → y.block ≠ f)
    (ha : a ≤ 4294967296) (hm : m ≤ 4294967296) (hm2 : d.bs.length ≤ 4294967296) (hB : B ≤ w.heap.size) :
    Calls Tryd.prog 36 #[.pointer (some ⟨f, 0, none⟩), .slice A m c, .int .i64 (a : Int)] w fun e w' => e = .returned (.tuple #[.int .i64 (m : Int), .nilIface]) ∧ Laid w w' f B fd ⟨(a : Int) + m, rdc, false, false, fd⟩ dv { d with bs := lay d.bs a b, mt := 0 } := by
  have c0 := (cell_of hH 0).trans rfl
  have f0 := free_of hH 0
  have hH1 : HandleIs (w.setCell ⟨f, 0, none⟩ (.int .i64 (a : Int))) f ⟨(a : Int), rdc, false, false, fd⟩ := Go.Rd.heap_setCell_same (o := 0) hH _
  have hw1 := wrote_set w f 0 (.int .i64 (a : Int))
  have hD1 := hD.wrote hw1 (fun e => fd_ne hD hH e) (fun k hk e => row_fh hD hH k hk e)
  have hb1 : BytesIn (w.setCell ⟨f, 0, none⟩ (.int .i64 (a : Int))) A m c b := ⟨hb.len, hb.nil, hb.le, hb.max, fun y hy j u hu => by
    have h := hb.cells y hy j u hu
    exact (World.cell?_of_block (hw1.block _ (cell_lt h) (fun e => hbf y hy (by rw [Go.Rd.add_block] at e; exact e)))).trans h, hb.fits⟩
  go_enter Tryd.func36, Tryd.ntmps36
  go_wp2_with (go_at_call 35; refine (write_all f B fd a rdc dv d A m c b _ hH1 hD1 hb1 ha hm hm2 (by simpa [World.setCell] using hB)).mono ?_; rintro e w2 ⟨rfl, hL⟩)
  go_ret2
  exact ⟨rfl, Laid.trans (hw1.mono (fun k _ hk => .inl hk)) (.inl rfl) hL⟩
end Go.Proofs.YtnkhfdnahnphdaaDoor
end
section
namespace Go.Proofs.YtnkhfdnahnphdaaDoor
open Go.ChangeShapes Go.WideShapes Go.ChangeAt Go.RowKit Go.Rd
open Go.Proofs.YtnkhfdnahnphdaaDoorW.PrintWords Go.Proofs.YtnkhfdnahnphdaaDoorW.PrintLast Go.Proofs.YtnkhfdnahnphdaaDoorW.PrintMore
set_option linter.unusedVariables false
theorem sync_file (f : Nat) (w : World) : Calls Tryd.prog 45 #[.pointer (some ⟨f, 0, none⟩)] w fun e w' => e = .returned .nilIface ∧ w' = w := by
  go_enter Tryd.func45, Tryd.ntmps45
  go_wp2
  go_ret
  exact ⟨rfl, rfl⟩
set_option maxHeartbeats 1000000 in
theorem close_file_ro (f B fd : Nat) (x rdc : Int) (cl : Bool) (dv : Value) (d : FD) (w : World) (hH : HandleIs w f ⟨x, rdc, cl, true, fd⟩) (hD : DataIs w B fd dv d) :
    Calls Tryd.prog 39 #[.pointer (some ⟨f, 0, none⟩)] w fun e w' => e = .returned .nilIface ∧ Laid w w' f B fd ⟨x, rdc, true, true, fd⟩ dv d := by
  have c2 := (cell_of hH 2).trans rfl
  have c3 := (cell_of hH 3).trans rfl
  have f2 := free_of hH 2
  have HH := Lib.hid hH
  have HD := Lib.hid hD
  clear hH hD
  go_enter Tryd.func39, Tryd.ntmps39
  go_wp2
  go_ret
  exact ⟨rfl, dv, Go.Rd.heap_setCell_same (o := 2) HH.out _, HD.out.wrote (wrote_set w f 2 _) (fun e => fd_ne HD.out HH.out e) (fun k hk e => row_fh HD.out HH.out k hk e), (wrote_set w f 2 _).mono (fun _ _ h => .inl h), .inl rfl⟩
set_option maxHeartbeats 1000000 in
theorem close_file_rw (f B fd : Nat) (x rdc : Int) (cl : Bool) (dv : Value) (d : FD) (w : World) (hH : HandleIs w f ⟨x, rdc, cl, false, fd⟩) (hD : DataIs w B fd dv d) :
    Calls Tryd.prog 39 #[.pointer (some ⟨f, 0, none⟩)] w fun e w' => e = .returned .nilIface ∧ Laid w w' f B fd ⟨x, rdc, true, false, fd⟩ dv { d with mt := 0 } := by
  have c2 := (cell_of hH 2).trans rfl
  have c3 := (cell_of hH 3).trans rfl
  have c4 := (cell_of hH 4).trans rfl
  have f2 := free_of hH 2
  have hH1 : HandleIs (w.setCell ⟨f, 2, none⟩ (.bool true)) f ⟨x, rdc, true, false, fd⟩ := Go.Rd.heap_setCell_same (o := 2) hH _
  have hD1 := hD.wrote (wrote_set w f 2 (.bool true)) (fun e => fd_ne hD hH e) (fun k hk e => row_fh hD hH k hk e)
  have HH := Lib.hid hH
  have HD := Lib.hid hD
  have HH1 := Lib.hid hH1
  have HD1 := Lib.hid hD1
  clear hH hD hH1 hD1
  go_enter Tryd.func39, Tryd.ntmps39
  go_wp2_with (go_at_call 68; refine (set_mt fd B dv _ 0 _ HD1.out).mono ?_; rintro e w3 ⟨rfl, hD3, hW3⟩)
  go_ret
  refine ⟨rfl, dv, HH1.out.wrote hW3 (fun e => fd_ne HD1.out HH1.out e.symm), hD3, ?_, .inl rfl⟩
  exact ((wrote_set w f 2 _).mono (fun _ _ h => .inl h)).trans (by
    refine ⟨hW3.os, hW3.tape, hW3.output, hW3.size, fun k hk hs => hW3.block k hk (fun e => hs (.inr (.inl e)))⟩)
set_option maxRecDepth 100000 in
set_option maxHeartbeats 2000000 in
theorem list_refused (f B fd : Nat) (h : FH) (n : Int) (dv : Value) (d : FD) (w : World) (hH : HandleIs w f h) (hfd : h.fd = fd) (hD : DataIs w B fd dv d) (hdir : d.dir = false) :
    Calls Tryd.prog 40 #[.pointer (some ⟨f, 0, none⟩), .int .i64 n] w fun e w' => ∃ b b2, e = .returned (.tuple #[.slice none 0 0, .iface 124 (.pointer (some ⟨b, 0, none⟩))]) ∧
      w'.heap[b]? = some (.cells #[.string ⟨#[114, 101, 97, 100, 100, 105, 114]⟩, .string d.nm, .iface 149 (.pointer (some ⟨b2, 0, none⟩))] 127 (0, 0)) ∧
      (∃ c t, w'.heap[b2]? = some (.cells c t (0, 0))) ∧ w.heap.size ≤ b2 ∧ Below w.heap.size w w' := by
  subst hfd
  have c4 := (cell_of hH 4).trans rfl
  have d0 := (cell_of hD.1 0).trans rfl
  have d3 := (cell_of hD.1 3).trans rfl
  rw [hdir] at d3
  have hfl := lt_of_heap hH
  have hfdl := lt_of_heap hD.1
  clear hH hD
  go_enter Tryd.func40, Tryd.ntmps40
  go_upto_region 2 with fail
  go_region_law (first
    | (go_simp; go_at_call 67; refine (new_err _ _).mono ?_; rintro e w1 ⟨b2, rfl, hb2, ⟨cc, tt, hc2⟩, hB1⟩; have c4 := (hB1.cell (p := ⟨f, 4, none⟩) hfl).trans c4; have d0 := (hB1.cell (p := ⟨h.fd, 0, none⟩) hfdl).trans d0))
  all_goals
    go_wp2_with fail
    go_ret2
    have hb0 : w.heap.size ≤ w1.heap.size := hB1.size
    refine ⟨_, _, rfl, alloc_new _ _, ⟨cc, tt, ?_⟩, hb2, (below_drew (Below.refl _ w)).trans (hB1.alloc hb0 _)⟩
    exact (((Below.refl w1.heap.size w1).alloc (Nat.le_refl _) _).block _ (lt_of_heap hc2)).trans hc2
end Go.Proofs.YtnkhfdnahnphdaaDoor
end
section
namespace Go.Proofs.YtnkhfdnahnphdaaDoor
open Go.ChangeShapes Go.WideShapes Go.ChangeAt Go.RowKit Go.Rd
open Go.Proofs.YtnkhfdnahnphdaaDoorW.PrintWords Go.Proofs.YtnkhfdnahnphdaaDoorW.PrintLast Go.Proofs.YtnkhfdnahnphdaaDoorW.PrintMore
theorem C_of_bytes' {w : World} {A : Option Addr} {n c : Nat} {l : List Int} (h : BytesIn w A n c l) : Kd.C (Kd.int .u8) w A n l := by
  refine ⟨h.len, by have := h.le; have := h.max; simp [maxLen] at this; omega, fun hn => ?_⟩
  cases A with
  | none => have := (h.nil rfl).1; omega
  | some ad =>
    refine ⟨ad, rfl, fun j p hj => ⟨[.int .u8 p], rfl, rfl, fun i u hu => ?_⟩⟩
    have hi : i = 0 := by
      have := (List.getElem?_eq_some_iff.1 hu).1
      simp at this; omega
    subst hi
    cases hu
    have e : j * (Kd.int IntKind.u8).sz + 0 = j := by
      have : (Kd.int IntKind.u8).sz = 1 := rfl
      rw [this]; omega
    rw [e]
    exact h.cells ad rfl j _ (by simp [hj])
/-- A part of bytes, and what it reads as. -/
theorem mid_run {w : World} {A : Option Addr} {n c : Nat} {l : List Int} (h : BytesIn w A n c l) (a b : Nat) (hab : a ≤ b) (hb : b ≤ n) :
    ∃ A', (∀ W : World, (Instr.slice 22 (.slice A n c) (some (.int .i64 (a : Int))) (some (.int .i64 (b : Int))) none).run Tryd.prog W = .ok (.slice A' ((l.take b).drop a).length (c - a)) W) ∧ Kd.C (Kd.int .u8) w A' ((l.take b).drop a).length ((l.take b).drop a) := by
  obtain ⟨i0, hi, hzz⟩ := Option.map_eq_some_iff.1 infoU8
  simp only [Prod.mk.injEq] at hzz
  obtain ⟨A', h1, h2, _⟩ := print_mid_int (P := Tryd.prog) (k := .u8) 22 5 Tryd.underlying22 hi hzz.2.1 A c l (a : Int) (b : Int) (by omega) (by omega) (by have := h.len; omega) (by have := h.len; have := h.le; omega)
  rw [h.len] at h1 h2
  simp only [Int.toNat_natCast] at h1 h2
  exact ⟨A', h1, Kd.C_of_reads (d := (0 : Int)) (h1 := fun _ => rfl) (h2 w (Kd.reads_of_C (enc := Value.int .u8) (d := (0 : Int)) (h1 := fun _ => rfl) (C_of_bytes' h)))⟩
theorem mid_run' {w : World} {A : Option Addr} {n c : Nat} {l : List Int} (h : BytesIn w A n c l) (a k : Nat) (r : List Int) (hb : a + k ≤ n) (hr : (l.take (a + r.length)).drop a = r) (hk : r.length = k) :
    ∃ A', (∀ W : World, (Instr.slice 22 (.slice A n c) (some (.int .i64 (a : Int))) (some (.int .i64 ((a : Int) + k))) none).run Tryd.prog W = .ok (.slice A' k (c - a)) W) ∧ Kd.C (Kd.int .u8) w A' k r := by
  subst hk
  obtain ⟨A', h1, h2⟩ := mid_run h a (a + r.length) (by omega) hb
  rw [hr, Int.natCast_add] at h1
  rw [hr] at h2
  exact ⟨A', h1, h2⟩
theorem two_new (w : World) (o1 o2 : Obj) : ((w.alloc o1).alloc o2).heap[w.heap.size + 1]? = some o2 := by
  have := alloc_new (w.alloc o1) o2
  rwa [World.size_alloc] at this
end Go.Proofs.YtnkhfdnahnphdaaDoor
end
section
namespace Go.Proofs.YtnkhfdnahnphdaaDoor
open Go.ChangeShapes Go.WideShapes Go.ChangeAt Go.RowKit Go.Rd
open Go.Proofs.YtnkhfdnahnphdaaDoorW.PrintWords Go.Proofs.YtnkhfdnahnphdaaDoorW.PrintLast Go.Proofs.YtnkhfdnahnphdaaDoorW.PrintMore
/-- A region's step that copies, by its run. -/
theorem step_copy_run {P : Program} {w : World} {ops : Array Oper} {o : Oper} {a : Act} {K : Act → World → Prop} {Q : Exit → Act → World → Prop} {E : Prop} (hgd : o.guard = none) (s x : Operand) (t u : TypeId)
    (ho : o.op = .call { callee := .builtin .copy, args := #[s, x], argTypes := #[t, u] }) (v y : Value) (hs : a.eval s = v) (hx : a.eval x = y) (R : Value → World → Prop)
    (hrun : ∃ v' w', (Builtin.copy_ #[t, u] o.type #[v, y]).run P w = .ok v' w' ∧ R v' w') (h : ∀ v' w', R v' w' → K (a.put o.dst v') w') :
    if Region.wanted o (yielded ops a.tmps) = true then Oper.wp P o a w K Q else E := by
  have hw : Region.wanted o (yielded ops a.tmps) = true := by simp [Region.wanted, hgd]
  rw [if_pos hw]
  obtain ⟨v', w', hr, hR⟩ := hrun
  unfold Oper.wp execOp
  simp only [ho, resolve, invoke, builtin, Sem.run_bind, Sem.run_pure, Result.andThen_ok, List.map_toArray, List.map_cons, List.map_nil, hs, hx, hr]
  exact h v' w' hR
/-- The copy of what is read: bytes that lie somewhere over a row that is known whole. -/
theorem copy_bytes {w : World} (ty : TypeId) (g o m c n cs : Nat) (cur : Array Value) (t : TypeId) (hg : w.heap[g]? = some (.cells cur t (0, 0))) (hfit : o + m ≤ cur.size) (hnm : n ≤ m) (A : Option Addr) (r : List Int) (hC : Kd.C (Kd.int .u8) w A n r) :
    ∃ v' w', (Builtin.copy_ #[22, 22] ty #[.slice (some ⟨g, o, none⟩) m c, .slice A n cs]).run Tryd.prog w = .ok v' w' ∧ v' = .int .i64 (n : Int) ∧
      w'.heap[g]? = some (.cells (splice cur.toList o (r.map (Value.int .u8))).toArray t (0, 0)) ∧ Wrote (fun k => k = g) w w' ∧ w'.heap.size = w.heap.size := by
  have hs : (Tryd.prog.info? 5).map (·.size) = some 1 := by kernel_rfl
  have hrl : r.length = n := hC.1
  by_cases h0 : n = 0
  · subst h0
    obtain rfl : r = [] := List.eq_nil_of_length_eq_zero hrl
    refine ⟨_, w, run_copy_none (P := Tryd.prog) w 22 22 ty 5 _ _ m c 0 cs Tryd.underlying22 hs (by simp), rfl, ?_, Wrote.refl _ _, rfl⟩
    rw [hg]; simp [splice]
  · obtain ⟨ad, rfl, _⟩ := C_cell hC 0 (by omega)
    have hsrc : ∀ j v, (r.map (Value.int .u8))[j]? = some v → w.cell? (ad.add j) = some v := fun j v hv => by
      simp only [List.getElem?_map, Option.map_eq_some_iff] at hv
      obtain ⟨x, hx, rfl⟩ := hv
      obtain ⟨hj, rfl⟩ := List.getElem?_eq_some_iff.1 hx
      obtain ⟨ad2, e2, h2⟩ := C_cell hC j hj
      cases e2
      exact h2
    obtain ⟨w', h1, h2, h3, h4⟩ := copy_run (P := Tryd.prog) (w := w) (dT := 22) (sT := 22) (elem := 5) ty g o m c n cs ad cur t (r.map (Value.int .u8)) Tryd.underlying22 hs hg (by simp [hrl, Nat.min_eq_left hnm]) hsrc (by simp [hrl]; omega) (by intro v hv; obtain ⟨x, _, rfl⟩ := List.mem_map.1 hv; rfl)
    refine ⟨_, w', h1, by simp [hrl], h2, h3, h4⟩
set_option maxRecDepth 100000 in
set_option maxHeartbeats 2000000 in
theorem read_some (g o m c : Nat) (cur : Array Value) (t : TypeId) (f B fd a n : Nat) (rdc : Int) (ro : Bool) (dv : Value) (d : FD) (w : World) (hG : w.heap[g]? = some (.cells cur t (0, 0))) (hgf : g ≠ f) (hgd : g ≠ fd) (hgr : ∀ k, dv.ownBlock = some k → k ≠ g) (hfit : o + m ≤ cur.size)
    (hH : HandleIs w f ⟨(a : Int), rdc, false, ro, fd⟩) (hD : DataIs w B fd dv d) (ha : a ≤ d.bs.length) (hne : m = 0 ∨ a < d.bs.length) (hn : n = min m (d.bs.length - a)) (hm : m ≤ 4294967296) (hl : d.bs.length ≤ 4294967296) :
    Calls Tryd.prog 33 #[.pointer (some ⟨f, 0, none⟩), .slice (some ⟨g, o, none⟩) m c] w fun e w' => e = .returned (.tuple #[.int .i64 (n : Int), .nilIface]) ∧ HandleIs w' f ⟨(a : Int) + (n : Int), rdc, false, ro, fd⟩ ∧ DataIs w' B fd dv d ∧
      w'.heap[g]? = some (.cells (splice cur.toList o (((d.bs.drop a).take n).map (Value.int .u8))).toArray t (0, 0)) ∧ Wrote (fun k => k = f ∨ k = g) w w' := by
  obtain ⟨Ad, cd, rfl⟩ := hD.slice
  have hb := (BytesIn.own (show w.ownsRow B tU8 1 (.slice Ad d.bs.length cd) d.bs.length (d.bs.map (Value.int .u8)) from hD.2.1) hD.2.2)
  obtain ⟨A0, k0, e0, hb⟩ := hb
  injection e0 with e01 e02 e03
  subst e01 e03
  have c0 := (cell_of hH 0).trans rfl
  have c2 := (cell_of hH 2).trans rfl
  have c4 := (cell_of hH 4).trans rfl
  have d1 := (cell_of hD.1 1).trans rfl
  have f0 := free_of hH 0
  have hna : a + n ≤ d.bs.length := by omega
  obtain ⟨A', hs1, hC⟩ := mid_run' hb a n ((d.bs.drop a).take n) hna (by
    have e : ((d.bs.drop a).take n).length = n := by simp; omega
    rw [e, List.take_drop]) (by simp; omega)
  have hnm : n ≤ m := by omega
  have hcp : ∀ ty (W : World), W.heap[g]? = some (.cells cur t (0, 0)) → Below w.heap.size w W → ∃ v' w', (Builtin.copy_ #[22, 22] ty #[.slice (some ⟨g, o, none⟩) m c, .slice A' n (cd - a)]).run Tryd.prog W = .ok v' w' ∧ v' = .int .i64 (n : Int) ∧
      w'.heap[g]? = some (.cells (splice cur.toList o (((d.bs.drop a).take n).map (Value.int .u8))).toArray t (0, 0)) ∧ Wrote (fun k => k = g) W w' ∧ w'.heap.size = W.heap.size :=
    fun ty W h1 h2 => copy_bytes ty g o m c n (cd - a) cur t h1 hfit hnm A' _ (Kd.C_below hC h2)
  obtain ⟨CR, hCR⟩ : ∃ CR, (splice cur.toList o (((d.bs.drop a).take n).map (Value.int .u8))).toArray = CR := ⟨_, rfl⟩
  rw [hCR] at hcp ⊢
  clear hCR
  have HCP := Lib.hid hcp
  have HNA := Lib.hid hn
  clear hcp hC hb hn
  by_cases hle : m ≤ d.bs.length - a
  · obtain rfl : n = m := by have := HNA.out; omega
    have hle2 : (n : Int) ≤ (d.bs.length : Int) - (a : Int) := by omega
    by_cases hlt : 0 < n
    · have e1 : ((a : Int) == (d.bs.length : Int)) = false := beq_eq_false_iff_ne.2 (by omega)
      have hal : a < d.bs.length := by omega
      have hlt' : decide (0 < n) = true := decide_eq_true hlt
      clear hne
      go_enter Tryd.func33, Tryd.ntmps33
      go_wp2_with fail
      go_quiet (fail)
      go_wp2_with fail
      go_quiet (fail)
      go_wp2_with fail
      go_quiet (fail)
      go_wp2_with fail
      have q1 : IntKind.i64.wrap ((a : Int) + (n : Int)) = (a : Int) + (n : Int) := IntWalk.i64_in _ (by omega)
      go_region_law (refine step_copy_run rfl (.tmp 75) (.tmp 93) 22 22 rfl (.slice (some ⟨g, o, none⟩) n c) (.slice A' n (cd - a)) (by simp [Act.eval, Act.put]) (by simp [Act.eval, Act.put]) _ (HCP.out _ _ hG ⟨rfl, rfl, rfl, Nat.le_refl _, fun _ _ => rfl⟩) ?_; rintro v1 w1 ⟨rfl, hg1, hw1, hz1⟩)
      all_goals
        have hW1 : Wrote (fun k => k = g) w w1 := ⟨hw1.os, hw1.tape, hw1.output, hw1.size, hw1.block⟩
        have hH1 := hH.wrote hW1 (fun e => hgf e.symm)
        have q0 := (cell_of hH1 0).trans rfl
        have q0f := free_of hH1 0
        go_wp2_with fail
        go_ret2
        exact ⟨rfl, Go.Rd.heap_setCell_same (o := 0) hH1 _, (hD.wrote hW1 (fun e => hgd e.symm) (fun k hk e => hgr k hk e)).wrote (wrote_set w1 f 0 _) (fun e => fd_ne hD hH e) (fun k hk e => row_fh hD hH k hk e), setCell_keeps hg1 hgf _, (hW1.mono (fun k _ hk => .inr hk)).setCell (fun _ => .inl rfl) _⟩
    · have hlt' : decide (0 < n) = false := decide_eq_false hlt
      clear hne
      go_enter Tryd.func33, Tryd.ntmps33
      go_wp2_with fail
      go_quiet (fail)
      go_wp2_with fail
      go_quiet (fail)
      go_wp2_with fail
      go_quiet (fail)
      go_wp2_with fail
      have q1 : IntKind.i64.wrap ((a : Int) + (n : Int)) = (a : Int) + (n : Int) := IntWalk.i64_in _ (by omega)
      go_region_law (refine step_copy_run rfl (.tmp 75) (.tmp 93) 22 22 rfl (.slice (some ⟨g, o, none⟩) n c) (.slice A' n (cd - a)) (by simp [Act.eval, Act.put]) (by simp [Act.eval, Act.put]) _ (HCP.out _ _ hG ⟨rfl, rfl, rfl, Nat.le_refl _, fun _ _ => rfl⟩) ?_; rintro v1 w1 ⟨rfl, hg1, hw1, hz1⟩)
      all_goals
        have hW1 : Wrote (fun k => k = g) w w1 := ⟨hw1.os, hw1.tape, hw1.output, hw1.size, hw1.block⟩
        have hH1 := hH.wrote hW1 (fun e => hgf e.symm)
        have q0 := (cell_of hH1 0).trans rfl
        have q0f := free_of hH1 0
        go_wp2_with fail
        go_ret2
        exact ⟨rfl, Go.Rd.heap_setCell_same (o := 0) hH1 _, (hD.wrote hW1 (fun e => hgd e.symm) (fun k hk e => hgr k hk e)).wrote (wrote_set w1 f 0 _) (fun e => fd_ne hD hH e) (fun k hk e => row_fh hD hH k hk e), setCell_keeps hg1 hgf _, (hW1.mono (fun k _ hk => .inr hk)).setCell (fun _ => .inl rfl) _⟩
  · have hlt : 0 < m := by omega
    have hal : a < d.bs.length := by omega
    have hnl : n < m := by have := HNA.out; omega
    · have e1 : ((a : Int) == (d.bs.length : Int)) = false := beq_eq_false_iff_ne.2 (by omega)
      have hlt' : decide (0 < m) = true := decide_eq_true hlt
      have q2 : IntKind.i64.wrap ((d.bs.length : Int) - (a : Int)) = (n : Int) := by
        have := HNA.out
        rw [show (d.bs.length : Int) - (a : Int) = (n : Int) by omega]
        exact IntWalk.i64_in _ (by omega)
      clear hne hle
      go_enter Tryd.func33, Tryd.ntmps33
      go_wp2_with fail
      go_quiet (fail)
      go_wp2_with fail
      go_quiet (fail)
      go_wp2_with fail
      go_quiet (fail)
      go_wp2_with fail
      go_quiet (fail)
      go_wp2_with fail
      have q1 : IntKind.i64.wrap ((a : Int) + (n : Int)) = (a : Int) + (n : Int) := IntWalk.i64_in _ (by omega)
      go_region_law (refine step_copy_run rfl (.tmp 75) (.tmp 93) 22 22 rfl (.slice (some ⟨g, o, none⟩) m c) (.slice A' n (cd - a)) (by simp [Act.eval, Act.put]) (by simp [Act.eval, Act.put]) _ (HCP.out _ _ hG ⟨rfl, rfl, rfl, Nat.le_refl _, fun _ _ => rfl⟩) ?_; rintro v1 w1 ⟨rfl, hg1, hw1, hz1⟩)
      all_goals
        have hW1 : Wrote (fun k => k = g) w w1 := ⟨hw1.os, hw1.tape, hw1.output, hw1.size, hw1.block⟩
        have hH1 := hH.wrote hW1 (fun e => hgf e.symm)
        have q0 := (cell_of hH1 0).trans rfl
        have q0f := free_of hH1 0
        go_wp2_with fail
        go_ret2
        exact ⟨rfl, Go.Rd.heap_setCell_same (o := 0) hH1 _, (hD.wrote hW1 (fun e => hgd e.symm) (fun k hk e => hgr k hk e)).wrote (wrote_set w1 f 0 _) (fun e => fd_ne hD hH e) (fun k hk e => row_fh hD hH k hk e), setCell_keeps hg1 hgf _, (hW1.mono (fun k _ hk => .inr hk)).setCell (fun _ => .inl rfl) _⟩
end Go.Proofs.YtnkhfdnahnphdaaDoor
end
section
namespace Go.Proofs.YtnkhfdnahnphdaaDoor
open Go.ChangeShapes Go.WideShapes Go.ChangeAt Go.RowKit Go.Rd
set_option linter.unusedVariables false
open Go.Proofs.YtnkhfdnahnphdaaDoorW.PrintWords Go.Proofs.YtnkhfdnahnphdaaDoorW.PrintLast Go.Proofs.YtnkhfdnahnphdaaDoorW.PrintMore
/-- Nothing but draws. -/
def Drew (w w' : World) : Prop := ∃ n, w' = w.drewN n
theorem Drew.mk2 (w : World) (a b : Nat) : Drew w ((w.drewN a).drewN b) := ⟨a + b, by rw [World.drewN_drewN]⟩
theorem Drew.mk3 (w : World) (a b c : Nat) : Drew w (((w.drewN a).drewN b).drewN c) := ⟨a + (b + c), by rw [World.drewN_drewN, World.drewN_drewN]⟩
set_option maxRecDepth 100000 in
set_option maxHeartbeats 2000000 in
theorem read_end (A : Option Addr) (m c : Nat) (f B S fd : Nat) (rdc : Int) (ro : Bool) (ad : Nat → Addr) (dv : Value) (d : FD) (w : World) (hS : Sents S w ad) 
    (hH : HandleIs w f ⟨(d.bs.length : Int), rdc, false, ro, fd⟩) (hD : DataIs w B fd dv d) (hm : 0 < m) (hm2 : m ≤ 4294967296) (hl : d.bs.length ≤ 4294967296) :
    Calls Tryd.prog 33 #[.pointer (some ⟨f, 0, none⟩), .slice A m c] w fun e w' => e = .returned (.tuple #[.int .i64 0, .iface 149 (.pointer (some (ad 1)))]) ∧ Drew w w' := by
  obtain ⟨Ad, cd, rfl⟩ := hD.slice
  have c0 := (cell_of hH 0).trans rfl
  have c2 := (cell_of hH 2).trans rfl
  have c4 := (cell_of hH 4).trans rfl
  have d1 := (cell_of hD.1 1).trans rfl
  have s1 := hS.cell 1 (by decide)
  have hlt' : decide (0 < m) = true := decide_eq_true hm
  have e1 : ((d.bs.length : Int) == (d.bs.length : Int)) = true := by simp
  go_enter Tryd.func33, Tryd.ntmps33
  go_wp2_with fail
  go_quiet (fail)
  go_wp2_with fail
  go_quiet (fail)
  go_wp2_with fail
  go_ret2
  first | exact ⟨rfl, Drew.mk2 _ _ _⟩ | exact ⟨rfl, Drew.mk3 _ _ _ _⟩
set_option maxRecDepth 100000 in
set_option maxHeartbeats 2000000 in
theorem read_beyond (A : Option Addr) (m c : Nat) (f B S fd a : Nat) (rdc : Int) (ro : Bool) (ad : Nat → Addr) (dv : Value) (d : FD) (w : World) (hS : Sents S w ad) 
    (hH : HandleIs w f ⟨(a : Int), rdc, false, ro, fd⟩) (hD : DataIs w B fd dv d) (hm2 : m ≤ 4294967296) (hl : d.bs.length < a) (ha : a ≤ 1152921504606846976) :
    Calls Tryd.prog 33 #[.pointer (some ⟨f, 0, none⟩), .slice A m c] w fun e w' => e = .returned (.tuple #[.int .i64 0, .iface 149 (.pointer (some (ad 2)))]) ∧ Drew w w' := by
  obtain ⟨Ad, cd, rfl⟩ := hD.slice
  have c0 := (cell_of hH 0).trans rfl
  have c2 := (cell_of hH 2).trans rfl
  have c4 := (cell_of hH 4).trans rfl
  have d1 := (cell_of hD.1 1).trans rfl
  have s1 := hS.cell 2 (by decide)
  have e1 : ((a : Int) == (d.bs.length : Int)) = false := beq_eq_false_iff_ne.2 (by omega)
  by_cases hm : 0 < m
  · have hlt' : decide (0 < m) = true := decide_eq_true hm
    go_enter Tryd.func33, Tryd.ntmps33
    go_wp2_with fail
    go_quiet (fail)
    go_wp2_with fail
    go_quiet (fail)
    go_wp2_with fail
    go_quiet (fail)
    go_wp2_with fail
    go_ret2
    first | exact ⟨rfl, Drew.mk2 _ _ _⟩ | exact ⟨rfl, Drew.mk3 _ _ _ _⟩
  · have hlt' : decide (0 < m) = false := decide_eq_false hm
    go_enter Tryd.func33, Tryd.ntmps33
    go_wp2_with fail
    go_quiet (fail)
    go_wp2_with fail
    go_quiet (fail)
    go_wp2_with fail
    go_quiet (fail)
    go_wp2_with fail
    go_ret2
    first | exact ⟨rfl, Drew.mk2 _ _ _⟩ | exact ⟨rfl, Drew.mk3 _ _ _ _⟩
set_option maxRecDepth 100000 in
set_option maxHeartbeats 2000000 in
theorem kind_eof (B : Nat) (ad : Nat → Addr) (w : World) (hS : Sents B w ad) : Calls Tryd.prog 46 #[.iface 149 (.pointer (some (ad 1)))] w fun e w' => e = .returned (.int .i64 4) ∧ w = w' := by
  have c0 := hS.cell 0 (by decide)
  have c1 := hS.cell 1 (by decide)
  have c4 := hS.cell 4 (by decide)
  have c5 := hS.cell 5 (by decide)
  have c7 := hS.cell 7 (by decide)
  have n4 := err_ne (W := w) (hS.ne 1 4 (by decide) (by decide) (by decide)) (hS.blk 1 (by decide)) (hS.blk 4 (by decide))
  have n7 := err_ne (W := w) (hS.ne 1 7 (by decide) (by decide) (by decide)) (hS.blk 1 (by decide)) (hS.blk 7 (by decide))
  have n5 := err_ne (W := w) (hS.ne 1 5 (by decide) (by decide) (by decide)) (hS.blk 1 (by decide)) (hS.blk 5 (by decide))
  have n0 := err_ne (W := w) (hS.ne 1 0 (by decide) (by decide) (by decide)) (hS.blk 1 (by decide)) (hS.blk 0 (by decide))
  have n3 := err_eq w (ad 1)
  have a1 := assert_err w (.pointer (some (ad 1)))
  have a2 := err_nil w (.pointer (some (ad 1)))
  go_enter Tryd.func46, Tryd.ntmps46
  go_wp2
  go_ret
  exact ⟨rfl, rfl⟩
set_option maxRecDepth 100000 in
set_option maxHeartbeats 2000000 in
theorem kind_unexp (B : Nat) (ad : Nat → Addr) (w : World) (hS : Sents B w ad) : Calls Tryd.prog 46 #[.iface 149 (.pointer (some (ad 2)))] w fun e w' => e = .returned (.int .i64 5) ∧ w = w' := by
  have c0 := hS.cell 0 (by decide)
  have c1 := hS.cell 1 (by decide)
  have c2 := hS.cell 2 (by decide)
  have c4 := hS.cell 4 (by decide)
  have c5 := hS.cell 5 (by decide)
  have c7 := hS.cell 7 (by decide)
  have n4 := err_ne (W := w) (hS.ne 2 4 (by decide) (by decide) (by decide)) (hS.blk 2 (by decide)) (hS.blk 4 (by decide))
  have n7 := err_ne (W := w) (hS.ne 2 7 (by decide) (by decide) (by decide)) (hS.blk 2 (by decide)) (hS.blk 7 (by decide))
  have n5 := err_ne (W := w) (hS.ne 2 5 (by decide) (by decide) (by decide)) (hS.blk 2 (by decide)) (hS.blk 5 (by decide))
  have n0 := err_ne (W := w) (hS.ne 2 0 (by decide) (by decide) (by decide)) (hS.blk 2 (by decide)) (hS.blk 0 (by decide))
  have n1 := err_ne (W := w) (hS.ne 2 1 (by decide) (by decide) (by decide)) (hS.blk 2 (by decide)) (hS.blk 1 (by decide))
  have n3 := err_eq w (ad 2)
  have a1 := assert_err w (.pointer (some (ad 2)))
  have a2 := err_nil w (.pointer (some (ad 2)))
  go_enter Tryd.func46, Tryd.ntmps46
  go_wp2
  go_ret
  exact ⟨rfl, rfl⟩
theorem below4 (w : World) (o1 o2 o3 o4 : Obj) : Below w.heap.size w ((((w.alloc o1).alloc o2).alloc o3).alloc o4) := (below3 w o1 o2 o3).alloc (by simp; omega) o4
theorem second_new4 (w : World) (o1 o2 o3 o4 : Obj) : ((((w.alloc o1).alloc o2).alloc o3).alloc o4).heap[w.heap.size + 1]? = some o2 := alloc_keeps (second_new _ _ _ _) _
theorem third_new4 (w : World) (o1 o2 o3 o4 : Obj) : ((((w.alloc o1).alloc o2).alloc o3).alloc o4).heap[w.heap.size + 1 + 1]? = some o3 := alloc_keeps (third_new _ _ _ _) _
theorem fourth_new (w : World) (o1 o2 o3 o4 : Obj) : ((((w.alloc o1).alloc o2).alloc o3).alloc o4).heap[w.heap.size + 1 + 1 + 1]? = some o4 := by
  have h := alloc_new (((w.alloc o1).alloc o2).alloc o3) o4
  simpa using h
/-- What a read leaves in the bytes' block. -/
def GotIn (w' : World) (g m : Nat) (r : List Int) : Prop := ∃ cur : Array Value, w'.heap[g]? = some (.cells cur 5 (0, 0)) ∧ cur.size = m ∧ ∀ (j : Nat) (u : Value), (r.map (Value.int .u8))[j]? = some u → cur[j]? = some u
theorem GotIn.set {w : World} {g m : Nat} {r : List Int} (h : GotIn w g m r) {p : Addr} (hp : g ≠ p.block) (u : Value) : GotIn (w.setCell p u) g m r := by
  obtain ⟨cur, h1, h2, h3⟩ := h
  exact ⟨cur, setCell_keeps h1 hp u, h2, h3⟩
theorem GotIn.lt {w : World} {g m : Nat} {r : List Int} (h : GotIn w g m r) : g < w.heap.size := by
  obtain ⟨cur, h1, _⟩ := h
  exact lt_of_heap h1
theorem GotIn.bytes {w : World} {g m n : Nat} {r : List Int} (h : GotIn w g m r) (hn : r.length = n) (hnm : n ≤ m) (hm : m ≤ 1000000) (hf : ∀ x ∈ r, 0 ≤ x ∧ x ≤ 255) : BytesIn w (some ⟨g, 0, none⟩) n m r := by
  obtain ⟨cur, h1, h2, h3⟩ := h
  refine ⟨hn, fun e => (by cases e), hnm, by unfold maxLen; omega, fun x hx j u hu => ?_, hf⟩
  cases hx
  rw [addr_add, Nat.zero_add, cell_of h1 j]
  exact h3 j u hu
/-- No error, or one of the laid ones, which are there. -/
def SentOr (errv : Value) (S : Nat) (W : World) (ad : Nat → Addr) : Prop := errv = .nilIface ∨ Sents S W ad
theorem SentOr.set {errv : Value} {S : Nat} {W : World} {ad : Nat → Addr} (h : SentOr errv S W ad) {p : Addr} (hp : S ≤ p.block) (u : Value) : SentOr errv S (W.setCell p u) ad := by
  rcases h with h | h
  · exact .inl h
  · exact .inr (h.below ((Below.refl _ _).setCell hp u))
/-- The file's data stay where they are. -/
def LaidS (w wx : World) (f B fd : Nat) (h : FH) (dv : Value) (d : FD) : Prop :=
  HandleIs wx f h ∧ DataIs wx B fd dv d ∧ Wrote (fun k => k = f ∨ k = fd ∨ dv.ownBlock = some k) w wx
theorem LaidS.set {w wx : World} {f B fd : Nat} {h : FH} {dv : Value} {d : FD} (hl : LaidS w wx f B fd h dv d) {p : Addr} {t : TypeId} (ht : Typed wx p.block t) (h1 : t ≠ tFH) (h2 : t ≠ tFD) (h3 : t ≠ tU8) (hn : w.heap.size ≤ p.block) (u : Value) : LaidS w (wx.setCell p u) f B fd h dv d := by
  obtain ⟨hH, hD, hW⟩ := hl
  obtain ⟨c, fr, hc⟩ := ht
  have e1 : f ≠ p.block := blk_ne hH hc h1.symm
  have e2 : fd ≠ p.block := blk_ne hD.1 hc h2.symm
  refine ⟨hH.set e1 u, ⟨setCell_keeps hD.1 e2 u, own_move hD.2.1 (fun k hk => Below.heap_setCell _ _ _ _ (fun e => ?_)), hD.2.2⟩, wrote_new hW hn u⟩
  obtain ⟨c', hc'⟩ := own_typed hD.2.1 k hk
  exact blk_ne hc' hc h3.symm e
/-- What a read tells. -/
def readE (bs : List Int) (a m : Nat) : Int := if bs.length < a then 5 else if 0 < m ∧ a = bs.length then 4 else 0
def readBs (bs : List Int) (a m : Nat) : List Int := (bs.drop a).take m
theorem HandleIs.drewN {w : World} {f : Nat} {h : FH} (hh : HandleIs w f h) (n : Nat) : HandleIs (w.drewN n) f h := hh
theorem DataIs.drewN {w : World} {B fd : Nat} {dv : Value} {d : FD} (hd : DataIs w B fd dv d) (n : Nat) : DataIs (w.drewN n) B fd dv d := hd.below (pw_below_drewN (Below.refl _ _) n)
end Go.Proofs.YtnkhfdnahnphdaaDoor
end
section
namespace Go.Proofs.YtnkhfdnahnphdaaDoor
open Go.ChangeShapes Go.WideShapes Go.ChangeAt Go.RowKit Go.Rd
open Go.Proofs.YtnkhfdnahnphdaaDoorW.PrintWords Go.Proofs.YtnkhfdnahnphdaaDoorW.PrintLast Go.Proofs.YtnkhfdnahnphdaaDoorW.PrintMore
set_option linter.unusedVariables false
set_option maxRecDepth 100000 in
set_option maxHeartbeats 2000000 in
theorem kind_closed (B : Nat) (ad : Nat → Addr) (w : World) (hS : Sents B w ad) : Calls Tryd.prog 46 #[.iface 149 (.pointer (some (ad 0)))] w fun e w' => e = .returned (.int .i64 3) ∧ w = w' := by
  have c0 := hS.cell 0 (by decide)
  have c4 := hS.cell 4 (by decide)
  have c5 := hS.cell 5 (by decide)
  have c7 := hS.cell 7 (by decide)
  have n4 := err_ne (W := w) (hS.ne 0 4 (by decide) (by decide) (by decide)) (hS.blk 0 (by decide)) (hS.blk 4 (by decide))
  have n7 := err_ne (W := w) (hS.ne 0 7 (by decide) (by decide) (by decide)) (hS.blk 0 (by decide)) (hS.blk 7 (by decide))
  have n5 := err_ne (W := w) (hS.ne 0 5 (by decide) (by decide) (by decide)) (hS.blk 0 (by decide)) (hS.blk 5 (by decide))
  have n3 := err_eq w (ad 0)
  have a1 := assert_err w (.pointer (some (ad 0)))
  have a2 := err_nil w (.pointer (some (ad 0)))
  go_enter Tryd.func46, Tryd.ntmps46
  go_wp2
  go_ret
  exact ⟨rfl, rfl⟩
section
variable (f B fd S : Nat) (x rdc : Int) (ro : Bool) (ad : Nat → Addr) (w : World)
set_option maxHeartbeats 1000000 in
theorem read_closed (A : Option Addr) (m c : Nat) (hS : Sents S w ad) (hH : HandleIs w f ⟨x, rdc, true, ro, fd⟩) :
    Calls Tryd.prog 33 #[.pointer (some ⟨f, 0, none⟩), .slice A m c] w fun e w' => e = .returned (.tuple #[.int .i64 0, .iface 149 (.pointer (some (ad 0)))]) ∧ Drew w w' := by
  have c2 := (cell_of hH 2).trans rfl
  have s0 := hS.cell 0 (by decide)
  go_enter Tryd.func33, Tryd.ntmps33
  go_wp2_with fail
  go_quiet (fail)
  go_wp2_with fail
  go_ret2
  exact ⟨rfl, _, rfl⟩
set_option maxHeartbeats 1000000 in
theorem write_closed (A : Option Addr) (m c : Nat) (hS : Sents S w ad) (hH : HandleIs w f ⟨x, rdc, true, ro, fd⟩) :
    Calls Tryd.prog 35 #[.pointer (some ⟨f, 0, none⟩), .slice A m c] w fun e w' => e = .returned (.tuple #[.int .i64 0, .iface 149 (.pointer (some (ad 0)))]) ∧ Drew w w' := by
  have c2 := (cell_of hH 2).trans rfl
  have s0 := hS.cell 0 (by decide)
  go_enter Tryd.func35, Tryd.ntmps35
  go_wp2_with fail
  go_quiet (fail)
  go_wp2_with fail
  go_ret2
  exact ⟨rfl, _, rfl⟩
set_option maxHeartbeats 1000000 in
theorem seek_closed (off wh : Int) (hS : Sents S w ad) (hH : HandleIs w f ⟨x, rdc, true, ro, fd⟩) :
    Calls Tryd.prog 37 #[.pointer (some ⟨f, 0, none⟩), .int .i64 off, .int .i64 wh] w fun e w' => e = .returned (.tuple #[.int .i64 0, .iface 149 (.pointer (some (ad 0)))]) ∧ Drew w w' := by
  have c2 := (cell_of hH 2).trans rfl
  have s0 := hS.cell 0 (by decide)
  go_enter Tryd.func37, Tryd.ntmps37
  go_wp2_with fail
  first
    | (go_quiet (fail)
       go_wp2_with fail
       go_ret2
       exact ⟨rfl, _, rfl⟩)
    | (go_ret2
       exact ⟨rfl, 0, rfl⟩)
set_option maxHeartbeats 1000000 in
theorem trunc_closed (k : Int) (hS : Sents S w ad) (hH : HandleIs w f ⟨x, rdc, true, ro, fd⟩) :
    Calls Tryd.prog 38 #[.pointer (some ⟨f, 0, none⟩), .int .i64 k] w fun e w' => e = .returned (.iface 149 (.pointer (some (ad 0)))) ∧ w = w' := by
  have c2 := (cell_of hH 2).trans rfl
  have s0 := hS.cell 0 (by decide)
  go_enter Tryd.func38, Tryd.ntmps38
  go_wp2
  go_ret
  exact ⟨rfl, rfl⟩
end
/-- An error that tells an operation and a path, with a new error in it. -/
def PErr (w w' : World) (b : Nat) (op nm : ByteArray) : Prop := ∃ b2, w'.heap[b]? = some (.cells #[.string op, .string nm, .iface 149 (.pointer (some ⟨b2, 0, none⟩))] 127 (0, 0)) ∧ (∃ c t, w'.heap[b2]? = some (.cells c t (0, 0))) ∧ w.heap.size ≤ b2
set_option maxRecDepth 100000 in
set_option maxHeartbeats 2000000 in
theorem write_ro (f B fd : Nat) (x rdc : Int) (A : Option Addr) (m c : Nat) (dv : Value) (d : FD) (w : World) (hH : HandleIs w f ⟨x, rdc, false, true, fd⟩) (hD : DataIs w B fd dv d) :
    Calls Tryd.prog 35 #[.pointer (some ⟨f, 0, none⟩), .slice A m c] w fun e w' => ∃ b, e = .returned (.tuple #[.int .i64 0, .iface 124 (.pointer (some ⟨b, 0, none⟩))]) ∧ PErr w w' b ⟨#[119, 114, 105, 116, 101]⟩ d.nm ∧ Below w.heap.size w w' := by
  have c2 := (cell_of hH 2).trans rfl
  have c3 := (cell_of hH 3).trans rfl
  have c4 := (cell_of hH 4).trans rfl
  have d0 := (cell_of hD.1 0).trans rfl
  have hfl := lt_of_heap hH
  have hfdl := lt_of_heap hD.1
  clear hH hD
  go_enter Tryd.func35, Tryd.ntmps35
  go_upto_region 4 with fail
  go_region_law (first
    | (go_simp; go_at_call 67; refine (new_err _ _).mono ?_; rintro e w1 ⟨b2, rfl, hb2, ⟨cc, tt, hc2⟩, hB1⟩; have c4 := (hB1.cell (p := ⟨f, 4, none⟩) hfl).trans c4; have d0 := (hB1.cell (p := ⟨fd, 0, none⟩) hfdl).trans d0))
  all_goals
    go_wp2_with fail
    go_ret2
    have hb0 : w.heap.size ≤ w1.heap.size := hB1.size
    refine ⟨_, rfl, ⟨b2, alloc_new _ _, ⟨cc, tt, ?_⟩, hb2⟩, (below_drew (Below.refl _ w)).trans (hB1.alloc hb0 _)⟩
    exact (((Below.refl w1.heap.size w1).alloc (Nat.le_refl _) _).block _ (lt_of_heap hc2)).trans hc2
end Go.Proofs.YtnkhfdnahnphdaaDoor
end
section
namespace Go.Proofs.YtnkhfdnahnphdaaDoor
open Go.ChangeShapes Go.WideShapes Go.ChangeAt Go.RowKit Go.Rd
open Go.Proofs.YtnkhfdnahnphdaaDoorW.PrintWords Go.Proofs.YtnkhfdnahnphdaaDoorW.PrintLast Go.Proofs.YtnkhfdnahnphdaaDoorW.PrintMore
set_option linter.unusedVariables false
set_option maxHeartbeats 1000000 in
theorem write_at_closed (f fd S : Nat) (x rdc off : Int) (ro : Bool) (ad : Nat → Addr) (A : Option Addr) (m c : Nat) (w : World) (hS : Sents S w ad) (hSf : S ≤ f) (hH : HandleIs w f ⟨x, rdc, true, ro, fd⟩) :
    Calls Tryd.prog 36 #[.pointer (some ⟨f, 0, none⟩), .slice A m c, .int .i64 off] w fun e w' => e = .returned (.tuple #[.int .i64 0, .iface 149 (.pointer (some (ad 0)))]) ∧ HandleIs w' f ⟨off, rdc, true, ro, fd⟩ ∧ Wrote (fun k => k = f) w w' := by
  have c0 := (cell_of hH 0).trans rfl
  have f0 := free_of hH 0
  have hH1 : HandleIs (w.setCell ⟨f, 0, none⟩ (.int .i64 off)) f ⟨off, rdc, true, ro, fd⟩ := Go.Rd.heap_setCell_same (o := 0) hH _
  have hw1 := wrote_set w f 0 (.int .i64 off)
  have hS1 : Sents S (w.setCell ⟨f, 0, none⟩ (.int .i64 off)) ad := hS.below ((Below.refl _ _).setCell (p := ⟨f, 0, none⟩) hSf _)
  have HH1 := Lib.hid hH1
  have HS1 := Lib.hid hS1
  have HW1 := Lib.hid hw1
  clear hH hH1 hS hS1 hw1
  go_enter Tryd.func36, Tryd.ntmps36
  go_wp2_with (go_at_call 35; refine (write_closed f fd S off rdc ro ad _ A m c HS1.out HH1.out).mono ?_; rintro e w2 ⟨rfl, j, rfl⟩)
  go_ret2
  exact ⟨rfl, HH1.out.drewN j, HW1.out.drewN j⟩
set_option maxHeartbeats 1000000 in
theorem write_at_ro (f B fd : Nat) (x rdc off : Int) (A : Option Addr) (m c : Nat) (dv : Value) (d : FD) (w : World) (hH : HandleIs w f ⟨x, rdc, false, true, fd⟩) (hD : DataIs w B fd dv d) :
    Calls Tryd.prog 36 #[.pointer (some ⟨f, 0, none⟩), .slice A m c, .int .i64 off] w fun e w' => ∃ b, e = .returned (.tuple #[.int .i64 0, .iface 124 (.pointer (some ⟨b, 0, none⟩))]) ∧ PErr w w' b ⟨#[119, 114, 105, 116, 101]⟩ d.nm ∧ HandleIs w' f ⟨off, rdc, false, true, fd⟩ ∧ Wrote (fun k => k = f) w w' := by
  have c0 := (cell_of hH 0).trans rfl
  have f0 := free_of hH 0
  have hH1 : HandleIs (w.setCell ⟨f, 0, none⟩ (.int .i64 off)) f ⟨off, rdc, false, true, fd⟩ := Go.Rd.heap_setCell_same (o := 0) hH _
  have hw1 := wrote_set w f 0 (.int .i64 off)
  have hD1 := hD.wrote hw1 (fun e => fd_ne hD hH e) (fun k hk e => row_fh hD hH k hk e)
  have HH1 := Lib.hid hH1
  have HD1 := Lib.hid hD1
  have HW1 := Lib.hid hw1
  clear hH hH1 hD hD1 hw1
  go_enter Tryd.func36, Tryd.ntmps36
  go_wp2_with (go_at_call 35; refine (write_ro f B fd off rdc A m c dv d _ HH1.out HD1.out).mono ?_; rintro e w2 ⟨b, rfl, hp, hB⟩)
  go_ret2
  obtain ⟨b2, p1, p2, p3⟩ := hp
  refine ⟨b, rfl, ⟨b2, p1, p2, ?_⟩, HH1.out.below hB, HW1.out.trans (Wrote.of_below hB)⟩
  simpa [World.setCell] using p3
end Go.Proofs.YtnkhfdnahnphdaaDoor
end
section
namespace Go.Proofs.YtnkhfdnahnphdaaDoor
set_option linter.unusedVariables false
abbrev Sx := Stp × List Int
def rdE (s : St) (n : Int) : Int := if s.at_ < 0 then 13 else readE s.bs s.at_.toNat n.toNat
def rdB (s : St) (n : Int) : List Int := if s.at_ < 0 then [] else readBs s.bs s.at_.toNat n.toNat
/-- Where a seek comes to. -/
def skTo (s : St) (off wh : Int) : Int := if wh = 0 then off else if wh = 1 then s.at_ + off else if wh = 2 then s.bs.length + off else s.at_
/-- What a step does to an open file. -/
def doF (s : St) (x : Sx) : Ans × St :=
  if x.1.op = 18 then (⟨0, 0, 0, []⟩, { s with cl := true })
  else if x.1.op = 23 then (⟨0, 0, 0, []⟩, s)
  else if x.1.op = 19 ∨ x.1.op = 20 then (⟨8, 0, 0, []⟩, s)
  else if s.cl = true then (⟨3, 0, 0, []⟩, s)
  else if x.1.op = 12 then (⟨rdE s x.1.n, 0, 0, rdB s x.1.n⟩, { s with at_ := s.at_ + (rdB s x.1.n).length })
  else if x.1.op = 16 then (⟨0, 0, skTo s x.1.off x.1.wh, []⟩, { s with at_ := skTo s x.1.off x.1.wh })
  else if s.ro = true then (⟨6, 0, 0, []⟩, if x.1.op = 15 then { s with at_ := x.1.off } else s)
  else if x.1.op = 17 then if x.1.off < 0 then (⟨7, 0, 0, []⟩, s) else (⟨0, 0, 0, []⟩, { s with bs := cutTo s.bs x.1.off.toNat })
  else if x.1.op = 14 then (⟨0, x.2.length, 0, []⟩, { s with bs := lay s.bs s.at_.toNat x.2, at_ := s.at_ + x.2.length })
  else (⟨0, x.2.length, 0, []⟩, { s with bs := lay s.bs x.1.off.toNat x.2, at_ := x.1.off + x.2.length })
/-- The steps of a handle that are asked of a pair. -/
def OpU (x : Sx) : Prop := 12 ≤ x.1.op ∧ x.1.op ≤ 23 ∧ x.1.op ≠ 13 ∧ x.1.op ≠ 21 ∧ x.1.op ≠ 22
/-- Where the reference speaks of a step on an open file. -/
structure SpkP (s : St) (x : Sx) : Prop where
  dl : x.1.dl ≤ 4096
  fits : 12 ≤ x.1.op → x.1.op ≤ 17 → 0 ≤ x.1.n ∧ x.1.n ≤ 4096 ∧ -1099511627776 ≤ x.1.off ∧ x.1.off ≤ 1099511627776
  read : x.1.op = 12 → s.cl = true ∨ 0 ≤ s.at_
  write : x.1.op = 14 → 0 ≤ s.at_ ∧ s.at_ ≤ 4096
  writeAt : x.1.op = 15 → 0 ≤ x.1.off ∧ x.1.off ≤ 4096
  trunc : x.1.op = 17 → x.1.off ≤ 4096
  seek : x.1.op = 16 → -2199023255552 < s.at_ ∧ s.at_ < 2199023255552
/-- Bounds behind k steps. -/
structure Good (k : Nat) (s : St) : Prop where
  len : s.bs.length ≤ 8192
  lo : -8796093022208 - 8192 * (k : Int) ≤ s.at_
  hi : s.at_ ≤ 8796093022208 + 8192 * (k : Int)
  fit : ∀ c ∈ s.bs, 0 ≤ c ∧ c ≤ 255
theorem Good.step {k : Nat} {s : St} (h : Good k s) : Good (k + 1) s := ⟨h.len, by have := h.lo; omega, by have := h.hi; omega, h.fit⟩
theorem cutTo_length (bs : List Int) (n : Nat) : (cutTo bs n).length = n := by unfold cutTo; simp; omega
theorem cutTo_fit {bs : List Int} (h : ∀ c ∈ bs, 0 ≤ c ∧ c ≤ 255) (n : Nat) : ∀ c ∈ cutTo bs n, 0 ≤ c ∧ c ≤ 255 := by
  intro c hc
  unfold cutTo at hc
  rcases List.mem_append.1 hc with hc | hc
  · exact h c (List.mem_of_mem_take hc)
  · rw [(List.mem_replicate.1 hc).2]; omega
theorem lay_fit {bs b : List Int} (h : ∀ c ∈ bs, 0 ≤ c ∧ c ≤ 255) (hb : ∀ c ∈ b, 0 ≤ c ∧ c ≤ 255) (a : Nat) : ∀ c ∈ lay bs a b, 0 ≤ c ∧ c ≤ 255 := by
  intro c hc
  unfold lay sized at hc
  simp only [List.mem_append] at hc
  rcases hc with (hc | hc) | hc
  · have := hc
    rcases hc with hc | hc
    · exact h c (List.mem_of_mem_take hc)
    · rw [(List.mem_replicate.1 hc).2]; omega
  · exact hb c hc
  · exact h c (List.mem_of_mem_drop hc)
theorem rdB_length_le (s : St) (n : Int) : (rdB s n).length ≤ n.toNat := by
  unfold rdB
  split
  · simp
  · unfold readBs; simp; omega
theorem doF_good {k : Nat} {s : St} {x : Sx} (h : Good k s) (hs : SpkP s x) (hb : x.2.length ≤ 4096) (hf : ∀ c ∈ x.2, 0 ≤ c ∧ c ≤ 255) (ho : OpU x) : Good (k + 1) (doF s x).2 := by
  obtain ⟨o1, o2, o3, o4, o5⟩ := ho
  have h1 := h.len
  have h2 := h.lo
  have h3 := h.hi
  unfold doF
  split
  · exact ⟨h.len, by simp only; omega, by simp only; omega, h.fit⟩
  split
  · exact h.step
  split
  · exact h.step
  split
  · exact h.step
  have hfit := hs.fits o1 (by omega)
  split
  · have := rdB_length_le s x.1.n
    exact ⟨h.len, by simp only; omega, by simp only; omega, h.fit⟩
  split
  · rename_i e
    have := hs.seek e
    refine ⟨h.len, ?_, ?_, h.fit⟩
    · simp only [skTo]; split <;> (try split) <;> (try split) <;> omega
    · simp only [skTo]; split <;> (try split) <;> (try split) <;> omega
  split
  · split
    · exact ⟨h.len, by simp only; omega, by simp only; omega, h.fit⟩
    · exact h.step
  split
  · rename_i e
    have := hs.trunc e
    split
    · exact h.step
    · exact ⟨by simp only [cutTo_length]; omega, by simp only; omega, by simp only; omega, cutTo_fit h.fit _⟩
  split
  · rename_i e
    have := hs.write e
    exact ⟨by simp only [lay_length]; omega, by simp only; omega, by simp only; omega, lay_fit h.fit hf _⟩
  · have := hs.writeAt (by omega)
    exact ⟨by simp only [lay_length]; omega, by simp only; omega, by simp only; omega, lay_fit h.fit hf _⟩
/-- What a step does to a pair of open files, the layer's first. -/
def doB (b : St) (x : Sx) (a : Ans) : St :=
  if x.1.op = 19 ∨ x.1.op = 20 then b
  else if x.1.op = 12 then (if b.cl = true then b else { b with at_ := b.at_ + a.data.length })
  else if a.e = 0 then (doF b x).2 else b
def stP (p : St × St) (x : Sx) : St × St := ((doF p.1 x).2, doB p.2 x (doF p.1 x).1)
def runP : St × St → List Sx → St × St
  | p, [] => p
  | p, x :: xs => runP (stP p x) xs
def ansP : St × St → List Sx → List Ans
  | _, [] => []
  | p, x :: xs => (doF p.1 x).1 :: ansP (stP p x) xs
def SpkAll : St × St → List Sx → Prop
  | _, [] => True
  | p, x :: xs => (SpkP p.1 x ∧ SpkP p.2 x ∧ OpU x) ∧ SpkAll (stP p x) xs
theorem runP_snoc (p : St × St) (xs : List Sx) (x : Sx) : runP p (xs ++ [x]) = stP (runP p xs) x := by
  induction xs generalizing p with
  | nil => rfl
  | cons y ys ih => exact ih _
theorem spkAll_snoc {p : St × St} {xs : List Sx} {x : Sx} (h : SpkAll p xs) (h1 : SpkP (runP p xs).1 x) (h2 : SpkP (runP p xs).2 x) (h3 : OpU x) : SpkAll p (xs ++ [x]) := by
  induction xs generalizing p with
  | nil => exact ⟨⟨h1, h2, h3⟩, trivial⟩
  | cons y ys ih => exact ⟨h.1, ih h.2 h1 h2⟩
theorem ansP_length (p : St × St) (xs : List Sx) : (ansP p xs).length = xs.length := by
  induction xs generalizing p with
  | nil => rfl
  | cons y ys ih => simp [ansP, ih]
def ans1 : St → List Sx → List Ans
  | _, [] => []
  | s, x :: xs => (doF s x).1 :: ans1 (doF s x).2 xs
theorem ansP_eq (p : St × St) (xs : List Sx) : ansP p xs = ans1 p.1 xs := by
  induction xs generalizing p with
  | nil => rfl
  | cons y ys ih => simp only [ansP, ans1, ih]; rfl
/-- A file that is open for reading alone stays as it is. -/
theorem doF_ro {s : St} (x : Sx) (h : s.ro = true) : (doF s x).2.ro = true ∧ (doF s x).2.bs = s.bs := by
  unfold doF
  repeat' split
  all_goals first
    | exact ⟨h, rfl⟩
    | contradiction
theorem doB_ro {b : St} (x : Sx) (a : Ans) (h : b.ro = true) : (doB b x a).ro = true ∧ (doB b x a).bs = b.bs := by
  unfold doB
  split
  · exact ⟨h, rfl⟩
  split
  · split <;> exact ⟨h, rfl⟩
  split
  · exact doF_ro x h
  · exact ⟨h, rfl⟩
theorem runP_ro {p : St × St} (xs : List Sx) (h1 : p.1.ro = true) (h2 : p.2.ro = true) : (runP p xs).1.bs = p.1.bs ∧ (runP p xs).2.bs = p.2.bs := by
  induction xs generalizing p with
  | nil => exact ⟨rfl, rfl⟩
  | cons x xs ih =>
    have a := doF_ro x h1
    have b := doB_ro x (doF p.1 x).1 h2
    have := ih (p := stP p x) a.1 b.1
    exact ⟨this.1.trans a.2, this.2.trans b.2⟩
theorem doF_refuses {s : St} {x : Sx} (h : s.ro = true) (ho : x.1.op = 14 ∨ x.1.op = 15 ∨ x.1.op = 17) : (doF s x).1.e = 6 ∨ (doF s x).1.e = 3 := by
  unfold doF
  have e1 : x.1.op ≠ 18 := by omega
  have e2 : x.1.op ≠ 23 := by omega
  have e3 : ¬ (x.1.op = 19 ∨ x.1.op = 20) := by omega
  have e4 : x.1.op ≠ 12 := by omega
  have e5 : x.1.op ≠ 16 := by omega
  simp only [e1, e2, e3, e4, e5, h, if_false, if_true]
  split
  · exact .inr rfl
  · exact .inl rfl
theorem ans1_refuses {s : St} {xs : List Sx} (h : s.ro = true) : ∀ (i : Nat) x a, xs[i]? = some x → (ans1 s xs)[i]? = some a → (x.1.op = 14 ∨ x.1.op = 15 ∨ x.1.op = 17) → a.e = 6 ∨ a.e = 3 := by
  induction xs generalizing s with
  | nil => intro i x a hx; simp at hx
  | cons y ys ih =>
    intro i x a hx ha ho
    cases i with
    | zero =>
      simp only [List.getElem?_cons_zero, Option.some.injEq] at hx
      subst hx
      simp only [ans1, List.getElem?_cons_zero, Option.some.injEq] at ha
      subst ha
      exact doF_refuses h ho
    | succ i =>
      simp only [List.getElem?_cons_succ] at hx
      simp only [ans1, List.getElem?_cons_succ] at ha
      exact ih (doF_ro y h).1 i x a hx ha ho
end Go.Proofs.YtnkhfdnahnphdaaDoor
end
