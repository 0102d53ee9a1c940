/- Parts of the proof, merged: Sv. -/
import Derived.Test.YtnkhfdnahnphdaaDoorZc19
section
namespace Go.Proofs.YtnkhfdnahnphdaaDoor
open Go.ChangeShapes Go.WideShapes Go.ChangeAt Go.RowKit Go.Rd Go.Maps
open Go.Proofs.YtnkhfdnahnphdaaDoorW.PrintWords Go.Proofs.YtnkhfdnahnphdaaDoorW.PrintLast Go.Proofs.YtnkhfdnahnphdaaDoorW.PrintMore
set_option linter.unusedVariables false
set_option linter.unusedSimpArgs false
set_option linter.unusedSectionVars false
namespace Sb
/-- Three operations may come up: each, and behind each S is shown anew. -/
theorem rg_three {P : Program} {ops : Array Oper} {Q : Exit → Act → World → Prop} {md : Region.Mode} {S : World → Prop} {c i j q : Nat} {o o' o'' : Oper} {fuel : Nat} {listed : Array Bool} {a : Act} {w : World} (ho : ops[i]? = some o) (ho' : ops[j]? = some o') (ho'' : ops[q]? = some o'') (hun : listed.getD c true = false) (hr : Region.ready md ops listed = [i, j, q])
    (h : ∀ K' : Act → World → Prop, Shut (∀ a w, S w → (S w → Rg.anyD P md ops Q S c fuel (listed.setIfInBounds i true) a w) → K' a w) → if Region.wanted o (yielded ops a.tmps) = true then Oper.wp P o a w K' Q else K' (a.put o.dst undef) w)
    (h' : ∀ K' : Act → World → Prop, Shut (∀ a w, S w → (S w → Rg.anyD P md ops Q S c fuel (listed.setIfInBounds j true) a w) → K' a w) → if Region.wanted o' (yielded ops a.tmps) = true then Oper.wp P o' a w K' Q else K' (a.put o'.dst undef) w)
    (h'' : ∀ K' : Act → World → Prop, Shut (∀ a w, S w → (S w → Rg.anyD P md ops Q S c fuel (listed.setIfInBounds q true) a w) → K' a w) → if Region.wanted o'' (yielded ops a.tmps) = true then Oper.wp P o'' a w K' Q else K' (a.put o''.dst undef) w) : Rg.anyD P md ops Q S c (fuel + 1) listed a w := by
  refine ⟨fun h0 => (by rw [hun] at h0; cases h0), fun _ => ⟨fun h0 => (by rw [hr] at h0; cases h0), fun z hz => ?_⟩⟩
  rw [hr] at hz
  simp only [List.mem_cons, List.not_mem_nil, or_false] at hz
  rcases hz with rfl | rfl | rfl
  · exact wpOp_step ho (fun K' hK => h K' (fun a w hS hW => hK a w ⟨fun _ => hS, hW hS⟩))
  · exact wpOp_step ho' (fun K' hK => h' K' (fun a w hS hW => hK a w ⟨fun _ => hS, hW hS⟩))
  · exact wpOp_step ho'' (fun K' hK => h'' K' (fun a w hS hW => hK a w ⟨fun _ => hS, hW hS⟩))
def stpO (x : Stp) : Obj := .cells #[.int .i64 x.op, .string x.name, .string x.other, .int .i64 x.flag, .int .i64 x.perm, .int .i64 x.h, .slice x.da x.dl x.dc, .int .i64 x.off, .int .i64 x.wh, .int .i64 x.n] tStep (0, 0)
def zA : Array Value := #[.int .i64 0, .int .i64 0, .int .i64 0, .slice none 0 0, .slice none 0 0, .slice none 0 0]
/-- What is so as both are asked, and the answers laid down. -/
structure WJ (w W : World) (B p m1 hb1 m2 hb2 ob : Nat) (dv1 dv2 : Value) (s1 s2 : St) (x : Stp) (R : Option Value) (X5 X6 : Option (Nat × Array Value)) : Prop where
  up : UP W B p m1 hb1 m2 hb2 ob dv1 dv2 s1 s2
  wr : Wrote (Both hb1 hb2 dv1 dv2) w W
  stp : W.heap[w.heap.size]? = some (stpO x)
  ans : W.heap[w.heap.size + 1]? = some (.cells zA tAns (0, 0))
  row : ∀ v, R = some v → W.ownsRow w.heap.size 5 1 v 0 []
  x5 : ∀ b o, X5 = some (b, o) → W.heap[b]? = some (.cells o tAns (0, 0)) ∧ w.heap.size + 1 < b
  x6 : ∀ b o, X6 = some (b, o) → W.heap[b]? = some (.cells o tAns (0, 0)) ∧ w.heap.size + 1 < b
  ne : ∀ b o b' o', X5 = some (b, o) → X6 = some (b', o') → b ≠ b'
section
variable {w W W' : World} {B p m1 hb1 m2 hb2 ob : Nat} {dv1 dv2 : Value} {s1 s2 : St} {x : Stp} {R : Option Value} {X5 X6 : Option (Nat × Array Value)}
theorem WJ.keep (h : WJ w W B p m1 hb1 m2 hb2 ob dv1 dv2 s1 s2 x R X5 X6) (hk : KeepT SoftT W W') (hu : UP W' B p m1 hb1 m2 hb2 ob dv1 dv2 s1 s2) (hw : Wrote (Both hb1 hb2 dv1 dv2) w W') : WJ w W' B p m1 hb1 m2 hb2 ob dv1 dv2 s1 s2 x R X5 X6 where
  up := hu
  wr := hw
  stp := hk _ _ _ _ h.stp nsStep
  ans := hk _ _ _ _ h.ans nsAns
  row := fun v hv => own_keepT (h.row v hv) hk (by unfold SoftT; decide)
  x5 := fun b o hb => ⟨hk _ _ _ _ (h.x5 b o hb).1 nsAns, (h.x5 b o hb).2⟩
  x6 := fun b o hb => ⟨hk _ _ _ _ (h.x6 b o hb).1 nsAns, (h.x6 b o hb).2⟩
  ne := h.ne
theorem WJ.call2 (h : WJ w W B p m1 hb1 m2 hb2 ob dv1 dv2 s1 s2 x R X5 X6) (hk : KeepT SoftT W W') (hu : UP W' B p m1 hb1 m2 hb2 ob dv1 dv2 s1 s2) (hw : Wrote (Both hb1 hb2 dv1 dv2) w W') : WJ w W' B p m1 hb1 m2 hb2 ob dv1 dv2 s1 s2 x R X5 X6 := h.keep hk hu hw
theorem WJ.call1 {v : Value} (h : WJ w W B p m1 hb1 m2 hb2 ob dv1 dv2 s1 s2 x R X5 X6) (hk : KeepT SoftT W W') (hu : UP W' B p m1 hb1 m2 hb2 ob dv1 dv2 s1 s2) (hw : Wrote (Both hb1 hb2 dv1 dv2) w W') (ho : W'.ownsRow w.heap.size 5 1 v 0 []) : WJ w W' B p m1 hb1 m2 hb2 ob dv1 dv2 s1 s2 x (some v) X5 X6 :=
  { h.keep hk hu hw with row := fun u hu => by injection hu with hu; subst hu; exact ho }
theorem WJ.low (h : WJ w W B p m1 hb1 m2 hb2 ob dv1 dv2 s1 s2 x R X5 X6) : w.heap.size + 1 < W.heap.size := lt_of_heap h.ans
theorem WJ.alloc5 (h : WJ w W B p m1 hb1 m2 hb2 ob dv1 dv2 s1 s2 x R none X6) (z : Array Value) : WJ w (W.alloc (.cells z tAns)) B p m1 hb1 m2 hb2 ob dv1 dv2 s1 s2 x R (some (W.heap.size, z)) X6 :=
  { h.keep (KeepT.of_below ((Below.refl _ _).alloc (Nat.le_refl _) _)) (h.up.below ((Below.refl _ _).alloc (Nat.le_refl _) _)) (h.wr.alloc _) with
    x5 := fun b o hb => by
      injection hb with hb
      injection hb with e1 e2
      subst e1 e2
      exact ⟨alloc_new _ _, h.low⟩
    ne := fun b o b' o' hb hb' => by
      injection hb with hb
      injection hb with e1 e2
      subst e1
      have := lt_of_heap (h.x6 b' o' hb').1
      omega }
theorem WJ.alloc6 (h : WJ w W B p m1 hb1 m2 hb2 ob dv1 dv2 s1 s2 x R X5 none) (z : Array Value) : WJ w (W.alloc (.cells z tAns)) B p m1 hb1 m2 hb2 ob dv1 dv2 s1 s2 x R X5 (some (W.heap.size, z)) :=
  { h.keep (KeepT.of_below ((Below.refl _ _).alloc (Nat.le_refl _) _)) (h.up.below ((Below.refl _ _).alloc (Nat.le_refl _) _)) (h.wr.alloc _) with
    x6 := fun b o hb => by
      injection hb with hb
      injection hb with e1 e2
      subst e1 e2
      exact ⟨alloc_new _ _, h.low⟩
    ne := fun b o b' o' hb hb' => by
      injection hb' with hb'
      injection hb' with e1 e2
      subst e1
      have := lt_of_heap (h.x5 b o hb).1
      omega }
/-- A store into one of the answers' blocks. -/
theorem WJ.set5 {b : Nat} {o : Array Value} (h : WJ w W B p m1 hb1 m2 hb2 ob dv1 dv2 s1 s2 x R (some (b, o)) X6) (j : Nat) (u : Value) : WJ w (W.setCell ⟨b, j, none⟩ u) B p m1 hb1 m2 hb2 ob dv1 dv2 s1 s2 x R (some (b, o.setIfInBounds j u)) X6 where
  up := h.up.ans (Typed.of (h.x5 b o rfl).1) j u
  wr := wrote_new (p := ⟨b, j, none⟩) h.wr (by have := (h.x5 b o rfl).2; simp only; omega) u
  stp := setCell_keeps h.stp (a := ⟨b, j, none⟩) (by have := (h.x5 b o rfl).2; simp only; omega) u
  ans := setCell_keeps h.ans (a := ⟨b, j, none⟩) (by have := (h.x5 b o rfl).2; simp only; omega) u
  row := fun v hv => row_set (p := ⟨b, j, none⟩) (h.row v hv) (Typed.of (h.x5 b o rfl).1) (by decide) u
  x5 := fun b' o' hb => by
    injection hb with hb
    injection hb with e1 e2
    subst e1 e2
    exact ⟨Go.Rd.heap_setCell_same (h.x5 _ _ rfl).1 u, (h.x5 _ _ rfl).2⟩
  x6 := fun b' o' hb => ⟨setCell_keeps (h.x6 b' o' hb).1 (a := ⟨b, j, none⟩) (fun e => h.ne _ _ _ _ rfl hb e.symm) u, (h.x6 b' o' hb).2⟩
  ne := fun b1 o1 b2 o2 hb hb' => by
    injection hb with hb
    injection hb with e1 e2
    subst e1
    exact h.ne _ _ _ _ rfl hb'
theorem WJ.set6 {b : Nat} {o : Array Value} (h : WJ w W B p m1 hb1 m2 hb2 ob dv1 dv2 s1 s2 x R X5 (some (b, o))) (j : Nat) (u : Value) : WJ w (W.setCell ⟨b, j, none⟩ u) B p m1 hb1 m2 hb2 ob dv1 dv2 s1 s2 x R X5 (some (b, o.setIfInBounds j u)) where
  up := h.up.ans (Typed.of (h.x6 b o rfl).1) j u
  wr := wrote_new (p := ⟨b, j, none⟩) h.wr (by have := (h.x6 b o rfl).2; simp only; omega) u
  stp := setCell_keeps h.stp (a := ⟨b, j, none⟩) (by have := (h.x6 b o rfl).2; simp only; omega) u
  ans := setCell_keeps h.ans (a := ⟨b, j, none⟩) (by have := (h.x6 b o rfl).2; simp only; omega) u
  row := fun v hv => row_set (p := ⟨b, j, none⟩) (h.row v hv) (Typed.of (h.x6 b o rfl).1) (by decide) u
  x6 := fun b' o' hb => by
    injection hb with hb
    injection hb with e1 e2
    subst e1 e2
    exact ⟨Go.Rd.heap_setCell_same (h.x6 _ _ rfl).1 u, (h.x6 _ _ rfl).2⟩
  x5 := fun b' o' hb => ⟨setCell_keeps (h.x5 b' o' hb).1 (a := ⟨b, j, none⟩) (fun e => h.ne _ _ _ _ hb rfl e) u, (h.x5 b' o' hb).2⟩
  ne := fun b1 o1 b2 o2 hb hb' => by
    injection hb' with hb'
    injection hb' with e1 e2
    subst e1
    exact h.ne _ _ _ _ hb rfl
theorem WJ.store5 {b : Nat} (h : WJ w W B p m1 hb1 m2 hb2 ob dv1 dv2 s1 s2 x R (some (b, zA)) X6) (a0 a1 a2 a3 a4 a5 : Value) : WJ w ((((((W.setCell ⟨b, 0, none⟩ a0).setCell ⟨b, 1, none⟩ a1).setCell ⟨b, 2, none⟩ a2).setCell ⟨b, 3, none⟩ a3).setCell ⟨b, 4, none⟩ a4).setCell ⟨b, 5, none⟩ a5) B p m1 hb1 m2 hb2 ob dv1 dv2 s1 s2 x R (some (b, #[a0, a1, a2, a3, a4, a5])) X6 :=
  (((((h.set5 0 a0).set5 1 a1).set5 2 a2).set5 3 a3).set5 4 a4).set5 5 a5
theorem WJ.store6 {b : Nat} (h : WJ w W B p m1 hb1 m2 hb2 ob dv1 dv2 s1 s2 x R X5 (some (b, zA))) (a0 a1 a2 a3 a4 a5 : Value) : WJ w ((((((W.setCell ⟨b, 0, none⟩ a0).setCell ⟨b, 1, none⟩ a1).setCell ⟨b, 2, none⟩ a2).setCell ⟨b, 3, none⟩ a3).setCell ⟨b, 4, none⟩ a4).setCell ⟨b, 5, none⟩ a5) B p m1 hb1 m2 hb2 ob dv1 dv2 s1 s2 x R X5 (some (b, #[a0, a1, a2, a3, a4, a5])) :=
  (((((h.set6 0 a0).set6 1 a1).set6 2 a2).set6 3 a3).set6 4 a4).set6 5 a5
theorem WJ.cells (h : WJ w W B p m1 hb1 m2 hb2 ob dv1 dv2 s1 s2 x R X5 X6) : W.cell? ⟨p, 1, none⟩ = some (.pointer (some ⟨m2, 0, none⟩)) ∧ W.cell? ⟨p, 0, none⟩ = some (.pointer (some ⟨m1, 0, none⟩)) ∧ W.cell? ⟨w.heap.size, 0, none⟩ = some (.int .i64 x.op) ∧ W.cell? ⟨w.heap.size, 1, none⟩ = some (.string x.name) ∧ W.cell? ⟨w.heap.size, 2, none⟩ = some (.string x.other) ∧ W.cell? ⟨w.heap.size, 3, none⟩ = some (.int .i64 x.flag) ∧ W.cell? ⟨w.heap.size, 4, none⟩ = some (.int .i64 x.perm) ∧ W.cell? ⟨w.heap.size, 5, none⟩ = some (.int .i64 x.h) ∧ W.cell? ⟨w.heap.size, 6, none⟩ = some (.slice x.da x.dl x.dc) ∧ W.cell? ⟨w.heap.size, 7, none⟩ = some (.int .i64 x.off) ∧ W.cell? ⟨w.heap.size, 8, none⟩ = some (.int .i64 x.wh) ∧ W.cell? ⟨w.heap.size, 9, none⟩ = some (.int .i64 x.n) :=
  ⟨(cell_of h.up.pair.blk 1).trans rfl, (cell_of h.up.pair.blk 0).trans rfl, (cell_of h.stp 0).trans rfl, (cell_of h.stp 1).trans rfl, (cell_of h.stp 2).trans rfl, (cell_of h.stp 3).trans rfl, (cell_of h.stp 4).trans rfl, (cell_of h.stp 5).trans rfl, (cell_of h.stp 6).trans rfl, (cell_of h.stp 7).trans rfl, (cell_of h.stp 8).trans rfl, (cell_of h.stp 9).trans rfl⟩
end
/-- Do of a listing. -/
def ListPost (w W : World) (B p m1 hb1 m2 hb2 ob : Nat) (dv1 dv2 : Value) (s1 s2 : St) (e : Ending) (w' : World) : Prop :=
  ∃ A c, e = .returned (ansVal 8 0 0 (.slice A 0 c)) ∧ w'.ownsRow w.heap.size 5 1 (.slice A 0 c) 0 [] ∧ UP w' B p m1 hb1 m2 hb2 ob dv1 dv2 s1 s2 ∧ Wrote (Both hb1 hb2 dv1 dv2) w w' ∧ KeepT SoftT W w'
theorem do_listing {s : St} {x : Sx} (hx : x.1.op = 19 ∨ x.1.op = 20) : doF s x = (⟨8, 0, 0, []⟩, s) := by unfold doF; rcases hx with h | h <;> simp [h]
section
variable (B p m1 hb1 m2 hb2 ob k : Nat) (dv1 dv2 : Value) (s1 s2 : St) (x : Sx) (w : World) (hU : UP w B p m1 hb1 m2 hb2 ob dv1 dv2 s1 s2) (hx : x.1.h = 0) (hO : OpU x) (hl : x.1.op = 19 ∨ x.1.op = 20) (hS1 : SpkW s1 x) (hS2 : SpkW s2 x) (hG1 : Good k s1) (hG2 : Good k s2) (hk : k ≤ 1000000) (hb : BytesIn w x.1.da x.1.dl x.1.dc x.2) (hB : B ≤ w.heap.size) (hbw : ∀ W : World, Wrote (Both hb1 hb2 dv1 dv2) w W → BytesIn W x.1.da x.1.dl x.1.dc x.2)
include hU hx hO hl hS1 hS2 hG1 hG2 hk hb hB hbw
theorem list_layer (W : World) (hu : UP W B p m1 hb1 m2 hb2 ob dv1 dv2 s1 s2) (hw0 : Wrote (Both hb1 hb2 dv1 dv2) w W) : Calls Tryd.prog 53 #[.pointer (some ⟨m2, 0, none⟩), .int .i64 0, x.1.val] W (ListPost w W B p m1 hb1 m2 hb2 ob dv1 dv2 s1 s2) := by
  refine (up_layer hu k 0 x hx hO hS2 hG2 hk (hbw W hw0) (Nat.le_trans hB hw0.size)).mono ?_
  rw [do_listing hl]
  rintro e w' ⟨v, rfl, ho, hu', hw⟩
  obtain ⟨A, c, rfl⟩ := own_slice ho
  exact ⟨A, c, rfl, row_le ho hw0.size, hu', hw0.trans hw, keep_of hw (both_soft hu)⟩
theorem list_base (W : World) (hu : UP W B p m1 hb1 m2 hb2 ob dv1 dv2 s1 s2) (hw0 : Wrote (Both hb1 hb2 dv1 dv2) w W) : Calls Tryd.prog 53 #[.pointer (some ⟨m1, 0, none⟩), .int .i64 0, x.1.val] W (ListPost w W B p m1 hb1 m2 hb2 ob dv1 dv2 s1 s2) := by
  refine (up_base hu k 0 x hx hO hS1 hG1 hk (hbw W hw0) (Nat.le_trans hB hw0.size)).mono ?_
  rw [do_listing hl]
  rintro e w' ⟨v, rfl, ho, hu', hw⟩
  obtain ⟨A, c, rfl⟩ := own_slice ho
  exact ⟨A, c, rfl, row_le ho hw0.size, hu', hw0.trans hw, keep_of hw (both_soft hu)⟩
set_option maxRecDepth 100000 in
set_option maxHeartbeats 4000000 in
theorem woven_list : Calls Tryd.prog 81 #[.pointer (some ⟨p, 0, none⟩), x.1.val] w fun e w' => ∃ v, e = .returned (ansVal 8 0 0 v) ∧ w'.ownsRow w.heap.size 5 1 v 0 [] ∧ UP w' B p m1 hb1 m2 hb2 ob dv1 dv2 s1 s2 ∧ Wrote (Both hb1 hb2 dv1 dv2) w w' := by
  have hlay := list_layer B p m1 hb1 m2 hb2 ob k dv1 dv2 s1 s2 x w hU hx hO hl hS1 hS2 hG1 hG2 hk hb hB hbw
  have hbas := list_base B p m1 hb1 m2 hb2 ob k dv1 dv2 s1 s2 x w hU hx hO hl hS1 hS2 hG1 hG2 hk hb hB hbw
  obtain ⟨⟨op, name, other, flag, perm, hh, da, dl, dc, off, wh, n⟩, bb⟩ := x
  simp only at hx
  subst hx
  have hj0 : WJ w ((((w.alloc (stpO ⟨op, name, other, flag, perm, 0, da, dl, dc, off, wh, n⟩)).alloc (.cells zA tAns)))).drew B p m1 hb1 m2 hb2 ob dv1 dv2 s1 s2 ⟨op, name, other, flag, perm, 0, da, dl, dc, off, wh, n⟩ none none none := by
    have hb2 : Below w.heap.size w ((w.alloc (stpO ⟨op, name, other, flag, perm, 0, da, dl, dc, off, wh, n⟩)).alloc (.cells zA tAns)).drew := (((Below.refl _ _).alloc (Nat.le_refl _) _).alloc (by simp) _).drew
    refine ⟨hU.below hb2, Wrote.of_below hb2, ?_, ?_, (fun _ h => by cases h), (fun _ _ h => by cases h), (fun _ _ h => by cases h), (fun _ _ _ _ h => by cases h)⟩
    · exact alloc_keeps (alloc_new w _) _
    · exact two_new w (stpO ⟨op, name, other, flag, perm, 0, da, dl, dc, off, wh, n⟩) (.cells zA tAns)
  unfold Stp.val at hlay hbas ⊢
  simp only at hlay hbas ⊢
  have HL := Lib.hid hlay
  have HBA := Lib.hid hbas
  have HJ0 := Lib.hid hj0
  clear hlay hbas hj0 hU hS1 hS2 hG1 hG2 hb hbw hO hl
  go_enter Tryd.func81, Tryd.ntmps81
  go_upto_region 1 with fail
  refine world_as (fun W => WJ w W.drew B p m1 hb1 m2 hb2 ob dv1 dv2 s1 s2 ⟨op, name, other, flag, perm, 0, da, dl, dc, off, wh, n⟩ none none none) HJ0.out (fun W hW => ?_)
  have hJ := hW
  have HW := Lib.hid hW
  clear HJ0 hW
  go_upto_region 1 with fail
  go_cut [5, 6] (fun u5 u6 wx => ∃ b5 b6 A d z6, u5 = .pointer (some ⟨b5, 0, none⟩) ∧ WJ w wx B p m1 hb1 m2 hb2 ob dv1 dv2 s1 s2 ⟨op, name, other, flag, perm, 0, da, dl, dc, off, wh, n⟩ (some (.slice A 0 d)) (some (b5, #[.int .i64 8, .int .i64 0, .int .i64 0, .slice A 0 d, .slice none 0 0, .slice none 0 0])) (some (b6, z6)))
  case first =>
    refine Rg.start 19 (fun W => W.cell? ⟨p, 1, none⟩ = some (.pointer (some ⟨m2, 0, none⟩)) ∧ W.cell? ⟨p, 0, none⟩ = some (.pointer (some ⟨m1, 0, none⟩)) ∧ W.cell? ⟨w.heap.size, 0, none⟩ = some (.int .i64 op) ∧ W.cell? ⟨w.heap.size, 1, none⟩ = some (.string name) ∧ W.cell? ⟨w.heap.size, 2, none⟩ = some (.string other) ∧ W.cell? ⟨w.heap.size, 3, none⟩ = some (.int .i64 flag) ∧ W.cell? ⟨w.heap.size, 4, none⟩ = some (.int .i64 perm) ∧ W.cell? ⟨w.heap.size, 5, none⟩ = some (.int .i64 0) ∧ W.cell? ⟨w.heap.size, 6, none⟩ = some (.slice da dl dc) ∧ W.cell? ⟨w.heap.size, 7, none⟩ = some (.int .i64 off) ∧ W.cell? ⟨w.heap.size, 8, none⟩ = some (.int .i64 wh) ∧ W.cell? ⟨w.heap.size, 9, none⟩ = some (.int .i64 n)) (by kernel_rfl) hJ.cells (fun hHeld => ?_)
    generalize W.drew = V0 at hJ hHeld ⊢
    refine Rg.take (i := 0) (v := ?_) rfl (by kernel_rfl) (by kernel_rfl) (by kernel_rfl) (by kernel_rfl) (by kernel_rfl) (by kernel_rfl) (fun _ _ _ h => h) (Or.inl ⟨by rfl, ?_⟩) (by assumption) ?_
    rotate_left
    · (intro w hSw; (try dsimp only at hSw); go_split_ands; go_simp) <;> with_reducible rfl
    (try simp only [Act.put, List.setIfInBounds_toArray, List.set_cons_zero, List.set_cons_succ, List.getElem_toArray, List.getElem_cons_succ, List.getElem_cons_zero])
    refine Rg.take (i := 1) (v := ?_) rfl (by kernel_rfl) (by kernel_rfl) (by kernel_rfl) (by kernel_rfl) (by kernel_rfl) (by kernel_rfl) (fun _ _ _ h => h) (Or.inl ⟨by rfl, ?_⟩) (by assumption) ?_
    rotate_left
    · (intro w hSw; (try dsimp only at hSw); go_split_ands; go_simp) <;> with_reducible rfl
    (try simp only [Act.put, List.setIfInBounds_toArray, List.set_cons_zero, List.set_cons_succ, List.getElem_toArray, List.getElem_cons_succ, List.getElem_cons_zero])
    refine Rg.take (i := 2) (v := ?_) rfl (by kernel_rfl) (by kernel_rfl) (by kernel_rfl) (by kernel_rfl) (by kernel_rfl) (by kernel_rfl) (fun _ _ _ h => h) (Or.inl ⟨by rfl, ?_⟩) (by assumption) ?_
    rotate_left
    · (intro w hSw; (try dsimp only at hSw); go_split_ands; go_simp) <;> with_reducible rfl
    (try simp only [Act.put, List.setIfInBounds_toArray, List.set_cons_zero, List.set_cons_succ, List.getElem_toArray, List.getElem_cons_succ, List.getElem_cons_zero])
    refine Rg.take (i := 3) (v := ?_) rfl (by kernel_rfl) (by kernel_rfl) (by kernel_rfl) (by kernel_rfl) (by kernel_rfl) (by kernel_rfl) (fun _ _ _ h => h) (Or.inl ⟨by rfl, ?_⟩) (by assumption) ?_
    rotate_left
    · (intro w hSw; (try dsimp only at hSw); go_split_ands; go_simp) <;> with_reducible rfl
    (try simp only [Act.put, List.setIfInBounds_toArray, List.set_cons_zero, List.set_cons_succ, List.getElem_toArray, List.getElem_cons_succ, List.getElem_cons_zero])
    refine Rg.take (i := 4) (v := ?_) rfl (by kernel_rfl) (by kernel_rfl) (by kernel_rfl) (by kernel_rfl) (by kernel_rfl) (by kernel_rfl) (fun _ _ _ h => h) (Or.inl ⟨by rfl, ?_⟩) (by assumption) ?_
    rotate_left
    · (intro w hSw; (try dsimp only at hSw); go_split_ands; go_simp) <;> with_reducible rfl
    (try simp only [Act.put, List.setIfInBounds_toArray, List.set_cons_zero, List.set_cons_succ, List.getElem_toArray, List.getElem_cons_succ, List.getElem_cons_zero])
    refine Rg.take (i := 5) (v := ?_) rfl (by kernel_rfl) (by kernel_rfl) (by kernel_rfl) (by kernel_rfl) (by kernel_rfl) (by kernel_rfl) (fun _ _ _ h => h) (Or.inl ⟨by rfl, ?_⟩) (by assumption) ?_
    rotate_left
    · (intro w hSw; (try dsimp only at hSw); go_split_ands; go_simp) <;> with_reducible rfl
    (try simp only [Act.put, List.setIfInBounds_toArray, List.set_cons_zero, List.set_cons_succ, List.getElem_toArray, List.getElem_cons_succ, List.getElem_cons_zero])
    refine Rg.take (i := 6) (v := ?_) rfl (by kernel_rfl) (by kernel_rfl) (by kernel_rfl) (by kernel_rfl) (by kernel_rfl) (by kernel_rfl) (fun _ _ _ h => h) (Or.inl ⟨by rfl, ?_⟩) (by assumption) ?_
    rotate_left
    · (intro w hSw; (try dsimp only at hSw); go_split_ands; go_simp) <;> with_reducible rfl
    (try simp only [Act.put, List.setIfInBounds_toArray, List.set_cons_zero, List.set_cons_succ, List.getElem_toArray, List.getElem_cons_succ, List.getElem_cons_zero])
    refine Rg.take (i := 8) (v := ?_) rfl (by kernel_rfl) (by kernel_rfl) (by kernel_rfl) (by kernel_rfl) (by kernel_rfl) (by kernel_rfl) (fun _ _ _ h => h) (Or.inl ⟨by rfl, ?_⟩) (by assumption) ?_
    rotate_left
    · (intro w hSw; (try dsimp only at hSw); go_split_ands; go_simp) <;> with_reducible rfl
    (try simp only [Act.put, List.setIfInBounds_toArray, List.set_cons_zero, List.set_cons_succ, List.getElem_toArray, List.getElem_cons_succ, List.getElem_cons_zero])
    refine Rg.take (i := 9) (v := ?_) rfl (by kernel_rfl) (by kernel_rfl) (by kernel_rfl) (by kernel_rfl) (by kernel_rfl) (by kernel_rfl) (fun _ _ _ h => h) (Or.inl ⟨by rfl, ?_⟩) (by assumption) ?_
    rotate_left
    · (intro w hSw; (try dsimp only at hSw); go_split_ands; go_simp) <;> with_reducible rfl
    (try simp only [Act.put, List.setIfInBounds_toArray, List.set_cons_zero, List.set_cons_succ, List.getElem_toArray, List.getElem_cons_succ, List.getElem_cons_zero])
    refine Rg.take (i := 10) (v := ?_) rfl (by kernel_rfl) (by kernel_rfl) (by kernel_rfl) (by kernel_rfl) (by kernel_rfl) (by kernel_rfl) (fun _ _ _ h => h) (Or.inl ⟨by rfl, ?_⟩) (by assumption) ?_
    rotate_left
    · (intro w hSw; (try dsimp only at hSw); go_split_ands; go_simp) <;> with_reducible rfl
    (try simp only [Act.put, List.setIfInBounds_toArray, List.set_cons_zero, List.set_cons_succ, List.getElem_toArray, List.getElem_cons_succ, List.getElem_cons_zero])
    refine Rg.take (i := 11) (v := ?_) rfl (by kernel_rfl) (by kernel_rfl) (by kernel_rfl) (by kernel_rfl) (by kernel_rfl) (by kernel_rfl) (fun _ _ _ h => h) (Or.inl ⟨by rfl, ?_⟩) (by assumption) ?_
    rotate_left
    · (intro w hSw; (try dsimp only at hSw); go_split_ands; go_simp) <;> with_reducible rfl
    (try simp only [Act.put, List.setIfInBounds_toArray, List.set_cons_zero, List.set_cons_succ, List.getElem_toArray, List.getElem_cons_succ, List.getElem_cons_zero])
    refine Rg.take (i := 12) (v := ?_) rfl (by kernel_rfl) (by kernel_rfl) (by kernel_rfl) (by kernel_rfl) (by kernel_rfl) (by kernel_rfl) (fun _ _ _ h => h) (Or.inl ⟨by rfl, ?_⟩) (by assumption) ?_
    rotate_left
    · (intro w hSw; (try dsimp only at hSw); go_split_ands; go_simp) <;> with_reducible rfl
    (try simp only [Act.put, List.setIfInBounds_toArray, List.set_cons_zero, List.set_cons_succ, List.getElem_toArray, List.getElem_cons_succ, List.getElem_cons_zero])
    refine Rg.take (i := 13) (v := ?_) rfl (by kernel_rfl) (by kernel_rfl) (by kernel_rfl) (by kernel_rfl) (by kernel_rfl) (by kernel_rfl) (fun _ _ _ h => h) (Or.inl ⟨by rfl, ?_⟩) (by assumption) ?_
    rotate_left
    · (intro w hSw; (try dsimp only at hSw); go_split_ands; go_simp) <;> with_reducible rfl
    (try simp only [Act.put, List.setIfInBounds_toArray, List.set_cons_zero, List.set_cons_succ, List.getElem_toArray, List.getElem_cons_succ, List.getElem_cons_zero])
    refine Rg.take (i := 14) (v := ?_) rfl (by kernel_rfl) (by kernel_rfl) (by kernel_rfl) (by kernel_rfl) (by kernel_rfl) (by kernel_rfl) (fun _ _ _ h => h) (Or.inl ⟨by rfl, ?_⟩) (by assumption) ?_
    rotate_left
    · (intro w hSw; (try dsimp only at hSw); go_split_ands; go_simp) <;> with_reducible rfl
    (try simp only [Act.put, List.setIfInBounds_toArray, List.set_cons_zero, List.set_cons_succ, List.getElem_toArray, List.getElem_cons_succ, List.getElem_cons_zero])
    refine rg_three (i := 7) (j := 16) (q := 17) rfl rfl rfl (by kernel_rfl) (by kernel_rfl) (fun K hK => ?_) (fun K hK => ?_) (fun K hK => ?_)
    · go_simp; go_at_call 53; refine (HL.out _ hJ.up hJ.wr).mono ?_; rintro e X1 ⟨A1, d1, rfl, ho1, hu1, hw1, hk1⟩; simp only [ansVal]
      replace hJ := hJ.call1 hk1 hu1 hw1 ho1
      clear hk1 hu1 hw1 ho1
      refine hK.out _ _ hJ.cells (fun hHeld => ?_)
      clear hK K
      (try simp only [Act.put, List.setIfInBounds_toArray, List.set_cons_zero, List.set_cons_succ, List.getElem_toArray, List.getElem_cons_succ, List.getElem_cons_zero])
      refine rg_three (i := 15) (j := 16) (q := 17) rfl rfl rfl (by kernel_rfl) (by kernel_rfl) (fun K hK => ?_) (fun K hK => ?_) (fun K hK => ?_)
      · go_simp; go_at_call 53; refine (HBA.out _ hJ.up hJ.wr).mono ?_; rintro e X2 ⟨A2, d2, rfl, ho2, hu2, hw2, hk2⟩; simp only [ansVal]
        replace hJ := hJ.call2 hk2 hu2 hw2
        clear hk2 hu2 hw2 ho2
        refine hK.out _ _ hJ.cells (fun hHeld => ?_)
        clear hK K
        (try simp only [Act.put, List.setIfInBounds_toArray, List.set_cons_zero, List.set_cons_succ, List.getElem_toArray, List.getElem_cons_succ, List.getElem_cons_zero])
        refine rg_two (i := 16) (j := 17) rfl rfl (by kernel_rfl) (by kernel_rfl) (fun K hK => ?_) (fun K hK => ?_)
        · go_simp
          replace hJ := hJ.alloc5 (#[.int .i64 0, .int .i64 0, .int .i64 0, .slice none 0 0, .slice none 0 0, .slice none 0 0])
          refine hK.out _ _ hJ.cells (fun hHeld => ?_)
          clear hK K
          (try simp only [Act.put, List.setIfInBounds_toArray, List.set_cons_zero, List.set_cons_succ, List.getElem_toArray, List.getElem_cons_succ, List.getElem_cons_zero])
          generalize X2.alloc (.cells #[.int .i64 0, .int .i64 0, .int .i64 0, .slice none 0 0, .slice none 0 0, .slice none 0 0] tAns) = Y5 at hJ hHeld ⊢
          generalize X2.heap.size = b5 at hJ hHeld ⊢
          refine Rg.one (i := 17) rfl (by kernel_rfl) (by kernel_rfl) (fun K hK => ?_)
          go_simp
          replace hJ := hJ.alloc6 (#[.int .i64 0, .int .i64 0, .int .i64 0, .slice none 0 0, .slice none 0 0, .slice none 0 0])
          refine hK.out _ _ hJ.cells (fun hHeld => ?_)
          clear hK K
          (try simp only [Act.put, List.setIfInBounds_toArray, List.set_cons_zero, List.set_cons_succ, List.getElem_toArray, List.getElem_cons_succ, List.getElem_cons_zero])
          generalize Y5.alloc (.cells #[.int .i64 0, .int .i64 0, .int .i64 0, .slice none 0 0, .slice none 0 0, .slice none 0 0] tAns) = Y6 at hJ hHeld ⊢
          generalize Y5.heap.size = b6 at hJ hHeld ⊢
          refine Rg.one (i := 18) rfl (by kernel_rfl) (by kernel_rfl) (fun K hK => ?_)
          obtain ⟨h5, n5⟩ := hJ.x5 _ _ rfl
          obtain ⟨⟨v0, v1, v2, v3, v4, v5⟩, q0, q1, q2, q3, q4, q5⟩ := cells6 h5
          go_simp
          replace hJ := hJ.store5 (.int .i64 8) (.int .i64 0) (.int .i64 0) (.slice A1 0 d1) (.slice none 0 0) (.slice none 0 0)
          clear h5 v0 v1 v2 v3 v4 v5 q0 q1 q2 q3 q4 q5
          refine hK.out _ _ hJ.cells (fun hHeld => ?_)
          clear hK K
          (try simp only [Act.put, List.setIfInBounds_toArray, List.set_cons_zero, List.set_cons_succ, List.getElem_toArray, List.getElem_cons_succ, List.getElem_cons_zero])
          generalize (((((((Y6.setCell ⟨b5, 0, none⟩ (.int .i64 8)).setCell ⟨b5, 1, none⟩ (.int .i64 0)).setCell ⟨b5, 2, none⟩ (.int .i64 0)).setCell ⟨b5, 3, none⟩ (.slice A1 0 d1)).setCell ⟨b5, 4, none⟩ (.slice none 0 0)).setCell ⟨b5, 5, none⟩ (.slice none 0 0))) = V5 at hJ hHeld ⊢
          refine Rg.rest _ rfl rfl (by kernel_rfl) (by kernel_rfl) ?_
          simp only [List.drop_succ_cons, List.drop_zero]
          obtain ⟨h6, n6⟩ := hJ.x6 _ _ rfl
          obtain ⟨⟨v0, v1, v2, v3, v4, v5⟩, q0, q1, q2, q3, q4, q5⟩ := cells6 h6
          have HJ := Lib.hid hJ
          clear hJ h6 hHeld
          go_wp2_with fail
          go_meet
          exact ⟨_, _, _, _, _, rfl, HJ.out.store6 _ _ _ _ _ _⟩
        · go_simp
          replace hJ := hJ.alloc6 (#[.int .i64 0, .int .i64 0, .int .i64 0, .slice none 0 0, .slice none 0 0, .slice none 0 0])
          refine hK.out _ _ hJ.cells (fun hHeld => ?_)
          clear hK K
          (try simp only [Act.put, List.setIfInBounds_toArray, List.set_cons_zero, List.set_cons_succ, List.getElem_toArray, List.getElem_cons_succ, List.getElem_cons_zero])
          generalize X2.alloc (.cells #[.int .i64 0, .int .i64 0, .int .i64 0, .slice none 0 0, .slice none 0 0, .slice none 0 0] tAns) = Y6 at hJ hHeld ⊢
          generalize X2.heap.size = b6 at hJ hHeld ⊢
          refine Rg.one (i := 16) rfl (by kernel_rfl) (by kernel_rfl) (fun K hK => ?_)
          go_simp
          replace hJ := hJ.alloc5 (#[.int .i64 0, .int .i64 0, .int .i64 0, .slice none 0 0, .slice none 0 0, .slice none 0 0])
          refine hK.out _ _ hJ.cells (fun hHeld => ?_)
          clear hK K
          (try simp only [Act.put, List.setIfInBounds_toArray, List.set_cons_zero, List.set_cons_succ, List.getElem_toArray, List.getElem_cons_succ, List.getElem_cons_zero])
          generalize Y6.alloc (.cells #[.int .i64 0, .int .i64 0, .int .i64 0, .slice none 0 0, .slice none 0 0, .slice none 0 0] tAns) = Y5 at hJ hHeld ⊢
          generalize Y6.heap.size = b5 at hJ hHeld ⊢
          refine Rg.one (i := 18) rfl (by kernel_rfl) (by kernel_rfl) (fun K hK => ?_)
          obtain ⟨h5, n5⟩ := hJ.x5 _ _ rfl
          obtain ⟨⟨v0, v1, v2, v3, v4, v5⟩, q0, q1, q2, q3, q4, q5⟩ := cells6 h5
          go_simp
          replace hJ := hJ.store5 (.int .i64 8) (.int .i64 0) (.int .i64 0) (.slice A1 0 d1) (.slice none 0 0) (.slice none 0 0)
          clear h5 v0 v1 v2 v3 v4 v5 q0 q1 q2 q3 q4 q5
          refine hK.out _ _ hJ.cells (fun hHeld => ?_)
          clear hK K
          (try simp only [Act.put, List.setIfInBounds_toArray, List.set_cons_zero, List.set_cons_succ, List.getElem_toArray, List.getElem_cons_succ, List.getElem_cons_zero])
          generalize (((((((Y5.setCell ⟨b5, 0, none⟩ (.int .i64 8)).setCell ⟨b5, 1, none⟩ (.int .i64 0)).setCell ⟨b5, 2, none⟩ (.int .i64 0)).setCell ⟨b5, 3, none⟩ (.slice A1 0 d1)).setCell ⟨b5, 4, none⟩ (.slice none 0 0)).setCell ⟨b5, 5, none⟩ (.slice none 0 0))) = V5 at hJ hHeld ⊢
          refine Rg.rest _ rfl rfl (by kernel_rfl) (by kernel_rfl) ?_
          simp only [List.drop_succ_cons, List.drop_zero]
          obtain ⟨h6, n6⟩ := hJ.x6 _ _ rfl
          obtain ⟨⟨v0, v1, v2, v3, v4, v5⟩, q0, q1, q2, q3, q4, q5⟩ := cells6 h6
          have HJ := Lib.hid hJ
          clear hJ h6 hHeld
          go_wp2_with fail
          go_meet
          exact ⟨_, _, _, _, _, rfl, HJ.out.store6 _ _ _ _ _ _⟩
      · go_simp
        replace hJ := hJ.alloc5 (#[.int .i64 0, .int .i64 0, .int .i64 0, .slice none 0 0, .slice none 0 0, .slice none 0 0])
        refine hK.out _ _ hJ.cells (fun hHeld => ?_)
        clear hK K
        (try simp only [Act.put, List.setIfInBounds_toArray, List.set_cons_zero, List.set_cons_succ, List.getElem_toArray, List.getElem_cons_succ, List.getElem_cons_zero])
        generalize X1.alloc (.cells #[.int .i64 0, .int .i64 0, .int .i64 0, .slice none 0 0, .slice none 0 0, .slice none 0 0] tAns) = Y5 at hJ hHeld ⊢
        generalize X1.heap.size = b5 at hJ hHeld ⊢
        refine rg_two (i := 15) (j := 17) rfl rfl (by kernel_rfl) (by kernel_rfl) (fun K hK => ?_) (fun K hK => ?_)
        · go_simp; go_at_call 53; refine (HBA.out _ hJ.up hJ.wr).mono ?_; rintro e X2 ⟨A2, d2, rfl, ho2, hu2, hw2, hk2⟩; simp only [ansVal]
          replace hJ := hJ.call2 hk2 hu2 hw2
          clear hk2 hu2 hw2 ho2
          refine hK.out _ _ hJ.cells (fun hHeld => ?_)
          clear hK K
          (try simp only [Act.put, List.setIfInBounds_toArray, List.set_cons_zero, List.set_cons_succ, List.getElem_toArray, List.getElem_cons_succ, List.getElem_cons_zero])
          refine Rg.one (i := 17) rfl (by kernel_rfl) (by kernel_rfl) (fun K hK => ?_)
          go_simp
          replace hJ := hJ.alloc6 (#[.int .i64 0, .int .i64 0, .int .i64 0, .slice none 0 0, .slice none 0 0, .slice none 0 0])
          refine hK.out _ _ hJ.cells (fun hHeld => ?_)
          clear hK K
          (try simp only [Act.put, List.setIfInBounds_toArray, List.set_cons_zero, List.set_cons_succ, List.getElem_toArray, List.getElem_cons_succ, List.getElem_cons_zero])
          generalize X2.alloc (.cells #[.int .i64 0, .int .i64 0, .int .i64 0, .slice none 0 0, .slice none 0 0, .slice none 0 0] tAns) = Y6 at hJ hHeld ⊢
          generalize X2.heap.size = b6 at hJ hHeld ⊢
          refine Rg.one (i := 18) rfl (by kernel_rfl) (by kernel_rfl) (fun K hK => ?_)
          obtain ⟨h5, n5⟩ := hJ.x5 _ _ rfl
          obtain ⟨⟨v0, v1, v2, v3, v4, v5⟩, q0, q1, q2, q3, q4, q5⟩ := cells6 h5
          go_simp
          replace hJ := hJ.store5 (.int .i64 8) (.int .i64 0) (.int .i64 0) (.slice A1 0 d1) (.slice none 0 0) (.slice none 0 0)
          clear h5 v0 v1 v2 v3 v4 v5 q0 q1 q2 q3 q4 q5
          refine hK.out _ _ hJ.cells (fun hHeld => ?_)
          clear hK K
          (try simp only [Act.put, List.setIfInBounds_toArray, List.set_cons_zero, List.set_cons_succ, List.getElem_toArray, List.getElem_cons_succ, List.getElem_cons_zero])
          generalize (((((((Y6.setCell ⟨b5, 0, none⟩ (.int .i64 8)).setCell ⟨b5, 1, none⟩ (.int .i64 0)).setCell ⟨b5, 2, none⟩ (.int .i64 0)).setCell ⟨b5, 3, none⟩ (.slice A1 0 d1)).setCell ⟨b5, 4, none⟩ (.slice none 0 0)).setCell ⟨b5, 5, none⟩ (.slice none 0 0))) = V5 at hJ hHeld ⊢
          refine Rg.rest _ rfl rfl (by kernel_rfl) (by kernel_rfl) ?_
          simp only [List.drop_succ_cons, List.drop_zero]
          obtain ⟨h6, n6⟩ := hJ.x6 _ _ rfl
          obtain ⟨⟨v0, v1, v2, v3, v4, v5⟩, q0, q1, q2, q3, q4, q5⟩ := cells6 h6
          have HJ := Lib.hid hJ
          clear hJ h6 hHeld
          go_wp2_with fail
          go_meet
          exact ⟨_, _, _, _, _, rfl, HJ.out.store6 _ _ _ _ _ _⟩
        · go_simp
          replace hJ := hJ.alloc6 (#[.int .i64 0, .int .i64 0, .int .i64 0, .slice none 0 0, .slice none 0 0, .slice none 0 0])
          refine hK.out _ _ hJ.cells (fun hHeld => ?_)
          clear hK K
          (try simp only [Act.put, List.setIfInBounds_toArray, List.set_cons_zero, List.set_cons_succ, List.getElem_toArray, List.getElem_cons_succ, List.getElem_cons_zero])
          generalize Y5.alloc (.cells #[.int .i64 0, .int .i64 0, .int .i64 0, .slice none 0 0, .slice none 0 0, .slice none 0 0] tAns) = Y6 at hJ hHeld ⊢
          generalize Y5.heap.size = b6 at hJ hHeld ⊢
          refine Rg.one (i := 15) rfl (by kernel_rfl) (by kernel_rfl) (fun K hK => ?_)
          go_simp; go_at_call 53; refine (HBA.out _ hJ.up hJ.wr).mono ?_; rintro e X2 ⟨A2, d2, rfl, ho2, hu2, hw2, hk2⟩; simp only [ansVal]
          replace hJ := hJ.call2 hk2 hu2 hw2
          clear hk2 hu2 hw2 ho2
          refine hK.out _ _ hJ.cells (fun hHeld => ?_)
          clear hK K
          (try simp only [Act.put, List.setIfInBounds_toArray, List.set_cons_zero, List.set_cons_succ, List.getElem_toArray, List.getElem_cons_succ, List.getElem_cons_zero])
          refine Rg.one (i := 18) rfl (by kernel_rfl) (by kernel_rfl) (fun K hK => ?_)
          obtain ⟨h5, n5⟩ := hJ.x5 _ _ rfl
          obtain ⟨⟨v0, v1, v2, v3, v4, v5⟩, q0, q1, q2, q3, q4, q5⟩ := cells6 h5
          go_simp
          replace hJ := hJ.store5 (.int .i64 8) (.int .i64 0) (.int .i64 0) (.slice A1 0 d1) (.slice none 0 0) (.slice none 0 0)
          clear h5 v0 v1 v2 v3 v4 v5 q0 q1 q2 q3 q4 q5
          refine hK.out _ _ hJ.cells (fun hHeld => ?_)
          clear hK K
          (try simp only [Act.put, List.setIfInBounds_toArray, List.set_cons_zero, List.set_cons_succ, List.getElem_toArray, List.getElem_cons_succ, List.getElem_cons_zero])
          generalize (((((((X2.setCell ⟨b5, 0, none⟩ (.int .i64 8)).setCell ⟨b5, 1, none⟩ (.int .i64 0)).setCell ⟨b5, 2, none⟩ (.int .i64 0)).setCell ⟨b5, 3, none⟩ (.slice A1 0 d1)).setCell ⟨b5, 4, none⟩ (.slice none 0 0)).setCell ⟨b5, 5, none⟩ (.slice none 0 0))) = V5 at hJ hHeld ⊢
          refine Rg.rest _ rfl rfl (by kernel_rfl) (by kernel_rfl) ?_
          simp only [List.drop_succ_cons, List.drop_zero]
          obtain ⟨h6, n6⟩ := hJ.x6 _ _ rfl
          obtain ⟨⟨v0, v1, v2, v3, v4, v5⟩, q0, q1, q2, q3, q4, q5⟩ := cells6 h6
          have HJ := Lib.hid hJ
          clear hJ h6 hHeld
          go_wp2_with fail
          go_meet
          exact ⟨_, _, _, _, _, rfl, HJ.out.store6 _ _ _ _ _ _⟩
      · go_simp
        replace hJ := hJ.alloc6 (#[.int .i64 0, .int .i64 0, .int .i64 0, .slice none 0 0, .slice none 0 0, .slice none 0 0])
        refine hK.out _ _ hJ.cells (fun hHeld => ?_)
        clear hK K
        (try simp only [Act.put, List.setIfInBounds_toArray, List.set_cons_zero, List.set_cons_succ, List.getElem_toArray, List.getElem_cons_succ, List.getElem_cons_zero])
        generalize X1.alloc (.cells #[.int .i64 0, .int .i64 0, .int .i64 0, .slice none 0 0, .slice none 0 0, .slice none 0 0] tAns) = Y6 at hJ hHeld ⊢
        generalize X1.heap.size = b6 at hJ hHeld ⊢
        refine rg_two (i := 15) (j := 16) rfl rfl (by kernel_rfl) (by kernel_rfl) (fun K hK => ?_) (fun K hK => ?_)
        · go_simp; go_at_call 53; refine (HBA.out _ hJ.up hJ.wr).mono ?_; rintro e X2 ⟨A2, d2, rfl, ho2, hu2, hw2, hk2⟩; simp only [ansVal]
          replace hJ := hJ.call2 hk2 hu2 hw2
          clear hk2 hu2 hw2 ho2
          refine hK.out _ _ hJ.cells (fun hHeld => ?_)
          clear hK K
          (try simp only [Act.put, List.setIfInBounds_toArray, List.set_cons_zero, List.set_cons_succ, List.getElem_toArray, List.getElem_cons_succ, List.getElem_cons_zero])
          refine Rg.one (i := 16) rfl (by kernel_rfl) (by kernel_rfl) (fun K hK => ?_)
          go_simp
          replace hJ := hJ.alloc5 (#[.int .i64 0, .int .i64 0, .int .i64 0, .slice none 0 0, .slice none 0 0, .slice none 0 0])
          refine hK.out _ _ hJ.cells (fun hHeld => ?_)
          clear hK K
          (try simp only [Act.put, List.setIfInBounds_toArray, List.set_cons_zero, List.set_cons_succ, List.getElem_toArray, List.getElem_cons_succ, List.getElem_cons_zero])
          generalize X2.alloc (.cells #[.int .i64 0, .int .i64 0, .int .i64 0, .slice none 0 0, .slice none 0 0, .slice none 0 0] tAns) = Y5 at hJ hHeld ⊢
          generalize X2.heap.size = b5 at hJ hHeld ⊢
          refine Rg.one (i := 18) rfl (by kernel_rfl) (by kernel_rfl) (fun K hK => ?_)
          obtain ⟨h5, n5⟩ := hJ.x5 _ _ rfl
          obtain ⟨⟨v0, v1, v2, v3, v4, v5⟩, q0, q1, q2, q3, q4, q5⟩ := cells6 h5
          go_simp
          replace hJ := hJ.store5 (.int .i64 8) (.int .i64 0) (.int .i64 0) (.slice A1 0 d1) (.slice none 0 0) (.slice none 0 0)
          clear h5 v0 v1 v2 v3 v4 v5 q0 q1 q2 q3 q4 q5
          refine hK.out _ _ hJ.cells (fun hHeld => ?_)
          clear hK K
          (try simp only [Act.put, List.setIfInBounds_toArray, List.set_cons_zero, List.set_cons_succ, List.getElem_toArray, List.getElem_cons_succ, List.getElem_cons_zero])
          generalize (((((((Y5.setCell ⟨b5, 0, none⟩ (.int .i64 8)).setCell ⟨b5, 1, none⟩ (.int .i64 0)).setCell ⟨b5, 2, none⟩ (.int .i64 0)).setCell ⟨b5, 3, none⟩ (.slice A1 0 d1)).setCell ⟨b5, 4, none⟩ (.slice none 0 0)).setCell ⟨b5, 5, none⟩ (.slice none 0 0))) = V5 at hJ hHeld ⊢
          refine Rg.rest _ rfl rfl (by kernel_rfl) (by kernel_rfl) ?_
          simp only [List.drop_succ_cons, List.drop_zero]
          obtain ⟨h6, n6⟩ := hJ.x6 _ _ rfl
          obtain ⟨⟨v0, v1, v2, v3, v4, v5⟩, q0, q1, q2, q3, q4, q5⟩ := cells6 h6
          have HJ := Lib.hid hJ
          clear hJ h6 hHeld
          go_wp2_with fail
          go_meet
          exact ⟨_, _, _, _, _, rfl, HJ.out.store6 _ _ _ _ _ _⟩
        · go_simp
          replace hJ := hJ.alloc5 (#[.int .i64 0, .int .i64 0, .int .i64 0, .slice none 0 0, .slice none 0 0, .slice none 0 0])
          refine hK.out _ _ hJ.cells (fun hHeld => ?_)
          clear hK K
          (try simp only [Act.put, List.setIfInBounds_toArray, List.set_cons_zero, List.set_cons_succ, List.getElem_toArray, List.getElem_cons_succ, List.getElem_cons_zero])
          generalize Y6.alloc (.cells #[.int .i64 0, .int .i64 0, .int .i64 0, .slice none 0 0, .slice none 0 0, .slice none 0 0] tAns) = Y5 at hJ hHeld ⊢
          generalize Y6.heap.size = b5 at hJ hHeld ⊢
          refine Rg.one (i := 15) rfl (by kernel_rfl) (by kernel_rfl) (fun K hK => ?_)
          go_simp; go_at_call 53; refine (HBA.out _ hJ.up hJ.wr).mono ?_; rintro e X2 ⟨A2, d2, rfl, ho2, hu2, hw2, hk2⟩; simp only [ansVal]
          replace hJ := hJ.call2 hk2 hu2 hw2
          clear hk2 hu2 hw2 ho2
          refine hK.out _ _ hJ.cells (fun hHeld => ?_)
          clear hK K
          (try simp only [Act.put, List.setIfInBounds_toArray, List.set_cons_zero, List.set_cons_succ, List.getElem_toArray, List.getElem_cons_succ, List.getElem_cons_zero])
          refine Rg.one (i := 18) rfl (by kernel_rfl) (by kernel_rfl) (fun K hK => ?_)
          obtain ⟨h5, n5⟩ := hJ.x5 _ _ rfl
          obtain ⟨⟨v0, v1, v2, v3, v4, v5⟩, q0, q1, q2, q3, q4, q5⟩ := cells6 h5
          go_simp
          replace hJ := hJ.store5 (.int .i64 8) (.int .i64 0) (.int .i64 0) (.slice A1 0 d1) (.slice none 0 0) (.slice none 0 0)
          clear h5 v0 v1 v2 v3 v4 v5 q0 q1 q2 q3 q4 q5
          refine hK.out _ _ hJ.cells (fun hHeld => ?_)
          clear hK K
          (try simp only [Act.put, List.setIfInBounds_toArray, List.set_cons_zero, List.set_cons_succ, List.getElem_toArray, List.getElem_cons_succ, List.getElem_cons_zero])
          generalize (((((((X2.setCell ⟨b5, 0, none⟩ (.int .i64 8)).setCell ⟨b5, 1, none⟩ (.int .i64 0)).setCell ⟨b5, 2, none⟩ (.int .i64 0)).setCell ⟨b5, 3, none⟩ (.slice A1 0 d1)).setCell ⟨b5, 4, none⟩ (.slice none 0 0)).setCell ⟨b5, 5, none⟩ (.slice none 0 0))) = V5 at hJ hHeld ⊢
          refine Rg.rest _ rfl rfl (by kernel_rfl) (by kernel_rfl) ?_
          simp only [List.drop_succ_cons, List.drop_zero]
          obtain ⟨h6, n6⟩ := hJ.x6 _ _ rfl
          obtain ⟨⟨v0, v1, v2, v3, v4, v5⟩, q0, q1, q2, q3, q4, q5⟩ := cells6 h6
          have HJ := Lib.hid hJ
          clear hJ h6 hHeld
          go_wp2_with fail
          go_meet
          exact ⟨_, _, _, _, _, rfl, HJ.out.store6 _ _ _ _ _ _⟩
    · go_simp
      replace hJ := hJ.alloc5 (#[.int .i64 0, .int .i64 0, .int .i64 0, .slice none 0 0, .slice none 0 0, .slice none 0 0])
      refine hK.out _ _ hJ.cells (fun hHeld => ?_)
      clear hK K
      (try simp only [Act.put, List.setIfInBounds_toArray, List.set_cons_zero, List.set_cons_succ, List.getElem_toArray, List.getElem_cons_succ, List.getElem_cons_zero])
      generalize V0.alloc (.cells #[.int .i64 0, .int .i64 0, .int .i64 0, .slice none 0 0, .slice none 0 0, .slice none 0 0] tAns) = Y5 at hJ hHeld ⊢
      generalize V0.heap.size = b5 at hJ hHeld ⊢
      refine rg_two (i := 7) (j := 17) rfl rfl (by kernel_rfl) (by kernel_rfl) (fun K hK => ?_) (fun K hK => ?_)
      · go_simp; go_at_call 53; refine (HL.out _ hJ.up hJ.wr).mono ?_; rintro e X1 ⟨A1, d1, rfl, ho1, hu1, hw1, hk1⟩; simp only [ansVal]
        replace hJ := hJ.call1 hk1 hu1 hw1 ho1
        clear hk1 hu1 hw1 ho1
        refine hK.out _ _ hJ.cells (fun hHeld => ?_)
        clear hK K
        (try simp only [Act.put, List.setIfInBounds_toArray, List.set_cons_zero, List.set_cons_succ, List.getElem_toArray, List.getElem_cons_succ, List.getElem_cons_zero])
        refine rg_two (i := 15) (j := 17) rfl rfl (by kernel_rfl) (by kernel_rfl) (fun K hK => ?_) (fun K hK => ?_)
        · go_simp; go_at_call 53; refine (HBA.out _ hJ.up hJ.wr).mono ?_; rintro e X2 ⟨A2, d2, rfl, ho2, hu2, hw2, hk2⟩; simp only [ansVal]
          replace hJ := hJ.call2 hk2 hu2 hw2
          clear hk2 hu2 hw2 ho2
          refine hK.out _ _ hJ.cells (fun hHeld => ?_)
          clear hK K
          (try simp only [Act.put, List.setIfInBounds_toArray, List.set_cons_zero, List.set_cons_succ, List.getElem_toArray, List.getElem_cons_succ, List.getElem_cons_zero])
          refine Rg.one (i := 17) rfl (by kernel_rfl) (by kernel_rfl) (fun K hK => ?_)
          go_simp
          replace hJ := hJ.alloc6 (#[.int .i64 0, .int .i64 0, .int .i64 0, .slice none 0 0, .slice none 0 0, .slice none 0 0])
          refine hK.out _ _ hJ.cells (fun hHeld => ?_)
          clear hK K
          (try simp only [Act.put, List.setIfInBounds_toArray, List.set_cons_zero, List.set_cons_succ, List.getElem_toArray, List.getElem_cons_succ, List.getElem_cons_zero])
          generalize X2.alloc (.cells #[.int .i64 0, .int .i64 0, .int .i64 0, .slice none 0 0, .slice none 0 0, .slice none 0 0] tAns) = Y6 at hJ hHeld ⊢
          generalize X2.heap.size = b6 at hJ hHeld ⊢
          refine Rg.one (i := 18) rfl (by kernel_rfl) (by kernel_rfl) (fun K hK => ?_)
          obtain ⟨h5, n5⟩ := hJ.x5 _ _ rfl
          obtain ⟨⟨v0, v1, v2, v3, v4, v5⟩, q0, q1, q2, q3, q4, q5⟩ := cells6 h5
          go_simp
          replace hJ := hJ.store5 (.int .i64 8) (.int .i64 0) (.int .i64 0) (.slice A1 0 d1) (.slice none 0 0) (.slice none 0 0)
          clear h5 v0 v1 v2 v3 v4 v5 q0 q1 q2 q3 q4 q5
          refine hK.out _ _ hJ.cells (fun hHeld => ?_)
          clear hK K
          (try simp only [Act.put, List.setIfInBounds_toArray, List.set_cons_zero, List.set_cons_succ, List.getElem_toArray, List.getElem_cons_succ, List.getElem_cons_zero])
          generalize (((((((Y6.setCell ⟨b5, 0, none⟩ (.int .i64 8)).setCell ⟨b5, 1, none⟩ (.int .i64 0)).setCell ⟨b5, 2, none⟩ (.int .i64 0)).setCell ⟨b5, 3, none⟩ (.slice A1 0 d1)).setCell ⟨b5, 4, none⟩ (.slice none 0 0)).setCell ⟨b5, 5, none⟩ (.slice none 0 0))) = V5 at hJ hHeld ⊢
          refine Rg.rest _ rfl rfl (by kernel_rfl) (by kernel_rfl) ?_
          simp only [List.drop_succ_cons, List.drop_zero]
          obtain ⟨h6, n6⟩ := hJ.x6 _ _ rfl
          obtain ⟨⟨v0, v1, v2, v3, v4, v5⟩, q0, q1, q2, q3, q4, q5⟩ := cells6 h6
          have HJ := Lib.hid hJ
          clear hJ h6 hHeld
          go_wp2_with fail
          go_meet
          exact ⟨_, _, _, _, _, rfl, HJ.out.store6 _ _ _ _ _ _⟩
        · go_simp
          replace hJ := hJ.alloc6 (#[.int .i64 0, .int .i64 0, .int .i64 0, .slice none 0 0, .slice none 0 0, .slice none 0 0])
          refine hK.out _ _ hJ.cells (fun hHeld => ?_)
          clear hK K
          (try simp only [Act.put, List.setIfInBounds_toArray, List.set_cons_zero, List.set_cons_succ, List.getElem_toArray, List.getElem_cons_succ, List.getElem_cons_zero])
          generalize X1.alloc (.cells #[.int .i64 0, .int .i64 0, .int .i64 0, .slice none 0 0, .slice none 0 0, .slice none 0 0] tAns) = Y6 at hJ hHeld ⊢
          generalize X1.heap.size = b6 at hJ hHeld ⊢
          refine Rg.one (i := 15) rfl (by kernel_rfl) (by kernel_rfl) (fun K hK => ?_)
          go_simp; go_at_call 53; refine (HBA.out _ hJ.up hJ.wr).mono ?_; rintro e X2 ⟨A2, d2, rfl, ho2, hu2, hw2, hk2⟩; simp only [ansVal]
          replace hJ := hJ.call2 hk2 hu2 hw2
          clear hk2 hu2 hw2 ho2
          refine hK.out _ _ hJ.cells (fun hHeld => ?_)
          clear hK K
          (try simp only [Act.put, List.setIfInBounds_toArray, List.set_cons_zero, List.set_cons_succ, List.getElem_toArray, List.getElem_cons_succ, List.getElem_cons_zero])
          refine Rg.one (i := 18) rfl (by kernel_rfl) (by kernel_rfl) (fun K hK => ?_)
          obtain ⟨h5, n5⟩ := hJ.x5 _ _ rfl
          obtain ⟨⟨v0, v1, v2, v3, v4, v5⟩, q0, q1, q2, q3, q4, q5⟩ := cells6 h5
          go_simp
          replace hJ := hJ.store5 (.int .i64 8) (.int .i64 0) (.int .i64 0) (.slice A1 0 d1) (.slice none 0 0) (.slice none 0 0)
          clear h5 v0 v1 v2 v3 v4 v5 q0 q1 q2 q3 q4 q5
          refine hK.out _ _ hJ.cells (fun hHeld => ?_)
          clear hK K
          (try simp only [Act.put, List.setIfInBounds_toArray, List.set_cons_zero, List.set_cons_succ, List.getElem_toArray, List.getElem_cons_succ, List.getElem_cons_zero])
          generalize (((((((X2.setCell ⟨b5, 0, none⟩ (.int .i64 8)).setCell ⟨b5, 1, none⟩ (.int .i64 0)).setCell ⟨b5, 2, none⟩ (.int .i64 0)).setCell ⟨b5, 3, none⟩ (.slice A1 0 d1)).setCell ⟨b5, 4, none⟩ (.slice none 0 0)).setCell ⟨b5, 5, none⟩ (.slice none 0 0))) = V5 at hJ hHeld ⊢
          refine Rg.rest _ rfl rfl (by kernel_rfl) (by kernel_rfl) ?_
          simp only [List.drop_succ_cons, List.drop_zero]
          obtain ⟨h6, n6⟩ := hJ.x6 _ _ rfl
          obtain ⟨⟨v0, v1, v2, v3, v4, v5⟩, q0, q1, q2, q3, q4, q5⟩ := cells6 h6
          have HJ := Lib.hid hJ
          clear hJ h6 hHeld
          go_wp2_with fail
          go_meet
          exact ⟨_, _, _, _, _, rfl, HJ.out.store6 _ _ _ _ _ _⟩
      · go_simp
        replace hJ := hJ.alloc6 (#[.int .i64 0, .int .i64 0, .int .i64 0, .slice none 0 0, .slice none 0 0, .slice none 0 0])
        refine hK.out _ _ hJ.cells (fun hHeld => ?_)
        clear hK K
        (try simp only [Act.put, List.setIfInBounds_toArray, List.set_cons_zero, List.set_cons_succ, List.getElem_toArray, List.getElem_cons_succ, List.getElem_cons_zero])
        generalize Y5.alloc (.cells #[.int .i64 0, .int .i64 0, .int .i64 0, .slice none 0 0, .slice none 0 0, .slice none 0 0] tAns) = Y6 at hJ hHeld ⊢
        generalize Y5.heap.size = b6 at hJ hHeld ⊢
        refine Rg.one (i := 7) rfl (by kernel_rfl) (by kernel_rfl) (fun K hK => ?_)
        go_simp; go_at_call 53; refine (HL.out _ hJ.up hJ.wr).mono ?_; rintro e X1 ⟨A1, d1, rfl, ho1, hu1, hw1, hk1⟩; simp only [ansVal]
        replace hJ := hJ.call1 hk1 hu1 hw1 ho1
        clear hk1 hu1 hw1 ho1
        refine hK.out _ _ hJ.cells (fun hHeld => ?_)
        clear hK K
        (try simp only [Act.put, List.setIfInBounds_toArray, List.set_cons_zero, List.set_cons_succ, List.getElem_toArray, List.getElem_cons_succ, List.getElem_cons_zero])
        refine Rg.one (i := 15) rfl (by kernel_rfl) (by kernel_rfl) (fun K hK => ?_)
        go_simp; go_at_call 53; refine (HBA.out _ hJ.up hJ.wr).mono ?_; rintro e X2 ⟨A2, d2, rfl, ho2, hu2, hw2, hk2⟩; simp only [ansVal]
        replace hJ := hJ.call2 hk2 hu2 hw2
        clear hk2 hu2 hw2 ho2
        refine hK.out _ _ hJ.cells (fun hHeld => ?_)
        clear hK K
        (try simp only [Act.put, List.setIfInBounds_toArray, List.set_cons_zero, List.set_cons_succ, List.getElem_toArray, List.getElem_cons_succ, List.getElem_cons_zero])
        refine Rg.one (i := 18) rfl (by kernel_rfl) (by kernel_rfl) (fun K hK => ?_)
        obtain ⟨h5, n5⟩ := hJ.x5 _ _ rfl
        obtain ⟨⟨v0, v1, v2, v3, v4, v5⟩, q0, q1, q2, q3, q4, q5⟩ := cells6 h5
        go_simp
        replace hJ := hJ.store5 (.int .i64 8) (.int .i64 0) (.int .i64 0) (.slice A1 0 d1) (.slice none 0 0) (.slice none 0 0)
        clear h5 v0 v1 v2 v3 v4 v5 q0 q1 q2 q3 q4 q5
        refine hK.out _ _ hJ.cells (fun hHeld => ?_)
        clear hK K
        (try simp only [Act.put, List.setIfInBounds_toArray, List.set_cons_zero, List.set_cons_succ, List.getElem_toArray, List.getElem_cons_succ, List.getElem_cons_zero])
        generalize (((((((X2.setCell ⟨b5, 0, none⟩ (.int .i64 8)).setCell ⟨b5, 1, none⟩ (.int .i64 0)).setCell ⟨b5, 2, none⟩ (.int .i64 0)).setCell ⟨b5, 3, none⟩ (.slice A1 0 d1)).setCell ⟨b5, 4, none⟩ (.slice none 0 0)).setCell ⟨b5, 5, none⟩ (.slice none 0 0))) = V5 at hJ hHeld ⊢
        refine Rg.rest _ rfl rfl (by kernel_rfl) (by kernel_rfl) ?_
        simp only [List.drop_succ_cons, List.drop_zero]
        obtain ⟨h6, n6⟩ := hJ.x6 _ _ rfl
        obtain ⟨⟨v0, v1, v2, v3, v4, v5⟩, q0, q1, q2, q3, q4, q5⟩ := cells6 h6
        have HJ := Lib.hid hJ
        clear hJ h6 hHeld
        go_wp2_with fail
        go_meet
        exact ⟨_, _, _, _, _, rfl, HJ.out.store6 _ _ _ _ _ _⟩
    · go_simp
      replace hJ := hJ.alloc6 (#[.int .i64 0, .int .i64 0, .int .i64 0, .slice none 0 0, .slice none 0 0, .slice none 0 0])
      refine hK.out _ _ hJ.cells (fun hHeld => ?_)
      clear hK K
      (try simp only [Act.put, List.setIfInBounds_toArray, List.set_cons_zero, List.set_cons_succ, List.getElem_toArray, List.getElem_cons_succ, List.getElem_cons_zero])
      generalize V0.alloc (.cells #[.int .i64 0, .int .i64 0, .int .i64 0, .slice none 0 0, .slice none 0 0, .slice none 0 0] tAns) = Y6 at hJ hHeld ⊢
      generalize V0.heap.size = b6 at hJ hHeld ⊢
      refine rg_two (i := 7) (j := 16) rfl rfl (by kernel_rfl) (by kernel_rfl) (fun K hK => ?_) (fun K hK => ?_)
      · go_simp; go_at_call 53; refine (HL.out _ hJ.up hJ.wr).mono ?_; rintro e X1 ⟨A1, d1, rfl, ho1, hu1, hw1, hk1⟩; simp only [ansVal]
        replace hJ := hJ.call1 hk1 hu1 hw1 ho1
        clear hk1 hu1 hw1 ho1
        refine hK.out _ _ hJ.cells (fun hHeld => ?_)
        clear hK K
        (try simp only [Act.put, List.setIfInBounds_toArray, List.set_cons_zero, List.set_cons_succ, List.getElem_toArray, List.getElem_cons_succ, List.getElem_cons_zero])
        refine rg_two (i := 15) (j := 16) rfl rfl (by kernel_rfl) (by kernel_rfl) (fun K hK => ?_) (fun K hK => ?_)
        · go_simp; go_at_call 53; refine (HBA.out _ hJ.up hJ.wr).mono ?_; rintro e X2 ⟨A2, d2, rfl, ho2, hu2, hw2, hk2⟩; simp only [ansVal]
          replace hJ := hJ.call2 hk2 hu2 hw2
          clear hk2 hu2 hw2 ho2
          refine hK.out _ _ hJ.cells (fun hHeld => ?_)
          clear hK K
          (try simp only [Act.put, List.setIfInBounds_toArray, List.set_cons_zero, List.set_cons_succ, List.getElem_toArray, List.getElem_cons_succ, List.getElem_cons_zero])
          refine Rg.one (i := 16) rfl (by kernel_rfl) (by kernel_rfl) (fun K hK => ?_)
          go_simp
          replace hJ := hJ.alloc5 (#[.int .i64 0, .int .i64 0, .int .i64 0, .slice none 0 0, .slice none 0 0, .slice none 0 0])
          refine hK.out _ _ hJ.cells (fun hHeld => ?_)
          clear hK K
          (try simp only [Act.put, List.setIfInBounds_toArray, List.set_cons_zero, List.set_cons_succ, List.getElem_toArray, List.getElem_cons_succ, List.getElem_cons_zero])
          generalize X2.alloc (.cells #[.int .i64 0, .int .i64 0, .int .i64 0, .slice none 0 0, .slice none 0 0, .slice none 0 0] tAns) = Y5 at hJ hHeld ⊢
          generalize X2.heap.size = b5 at hJ hHeld ⊢
          refine Rg.one (i := 18) rfl (by kernel_rfl) (by kernel_rfl) (fun K hK => ?_)
          obtain ⟨h5, n5⟩ := hJ.x5 _ _ rfl
          obtain ⟨⟨v0, v1, v2, v3, v4, v5⟩, q0, q1, q2, q3, q4, q5⟩ := cells6 h5
          go_simp
          replace hJ := hJ.store5 (.int .i64 8) (.int .i64 0) (.int .i64 0) (.slice A1 0 d1) (.slice none 0 0) (.slice none 0 0)
          clear h5 v0 v1 v2 v3 v4 v5 q0 q1 q2 q3 q4 q5
          refine hK.out _ _ hJ.cells (fun hHeld => ?_)
          clear hK K
          (try simp only [Act.put, List.setIfInBounds_toArray, List.set_cons_zero, List.set_cons_succ, List.getElem_toArray, List.getElem_cons_succ, List.getElem_cons_zero])
          generalize (((((((Y5.setCell ⟨b5, 0, none⟩ (.int .i64 8)).setCell ⟨b5, 1, none⟩ (.int .i64 0)).setCell ⟨b5, 2, none⟩ (.int .i64 0)).setCell ⟨b5, 3, none⟩ (.slice A1 0 d1)).setCell ⟨b5, 4, none⟩ (.slice none 0 0)).setCell ⟨b5, 5, none⟩ (.slice none 0 0))) = V5 at hJ hHeld ⊢
          refine Rg.rest _ rfl rfl (by kernel_rfl) (by kernel_rfl) ?_
          simp only [List.drop_succ_cons, List.drop_zero]
          obtain ⟨h6, n6⟩ := hJ.x6 _ _ rfl
          obtain ⟨⟨v0, v1, v2, v3, v4, v5⟩, q0, q1, q2, q3, q4, q5⟩ := cells6 h6
          have HJ := Lib.hid hJ
          clear hJ h6 hHeld
          go_wp2_with fail
          go_meet
          exact ⟨_, _, _, _, _, rfl, HJ.out.store6 _ _ _ _ _ _⟩
        · go_simp
          replace hJ := hJ.alloc5 (#[.int .i64 0, .int .i64 0, .int .i64 0, .slice none 0 0, .slice none 0 0, .slice none 0 0])
          refine hK.out _ _ hJ.cells (fun hHeld => ?_)
          clear hK K
          (try simp only [Act.put, List.setIfInBounds_toArray, List.set_cons_zero, List.set_cons_succ, List.getElem_toArray, List.getElem_cons_succ, List.getElem_cons_zero])
          generalize X1.alloc (.cells #[.int .i64 0, .int .i64 0, .int .i64 0, .slice none 0 0, .slice none 0 0, .slice none 0 0] tAns) = Y5 at hJ hHeld ⊢
          generalize X1.heap.size = b5 at hJ hHeld ⊢
          refine Rg.one (i := 15) rfl (by kernel_rfl) (by kernel_rfl) (fun K hK => ?_)
          go_simp; go_at_call 53; refine (HBA.out _ hJ.up hJ.wr).mono ?_; rintro e X2 ⟨A2, d2, rfl, ho2, hu2, hw2, hk2⟩; simp only [ansVal]
          replace hJ := hJ.call2 hk2 hu2 hw2
          clear hk2 hu2 hw2 ho2
          refine hK.out _ _ hJ.cells (fun hHeld => ?_)
          clear hK K
          (try simp only [Act.put, List.setIfInBounds_toArray, List.set_cons_zero, List.set_cons_succ, List.getElem_toArray, List.getElem_cons_succ, List.getElem_cons_zero])
          refine Rg.one (i := 18) rfl (by kernel_rfl) (by kernel_rfl) (fun K hK => ?_)
          obtain ⟨h5, n5⟩ := hJ.x5 _ _ rfl
          obtain ⟨⟨v0, v1, v2, v3, v4, v5⟩, q0, q1, q2, q3, q4, q5⟩ := cells6 h5
          go_simp
          replace hJ := hJ.store5 (.int .i64 8) (.int .i64 0) (.int .i64 0) (.slice A1 0 d1) (.slice none 0 0) (.slice none 0 0)
          clear h5 v0 v1 v2 v3 v4 v5 q0 q1 q2 q3 q4 q5
          refine hK.out _ _ hJ.cells (fun hHeld => ?_)
          clear hK K
          (try simp only [Act.put, List.setIfInBounds_toArray, List.set_cons_zero, List.set_cons_succ, List.getElem_toArray, List.getElem_cons_succ, List.getElem_cons_zero])
          generalize (((((((X2.setCell ⟨b5, 0, none⟩ (.int .i64 8)).setCell ⟨b5, 1, none⟩ (.int .i64 0)).setCell ⟨b5, 2, none⟩ (.int .i64 0)).setCell ⟨b5, 3, none⟩ (.slice A1 0 d1)).setCell ⟨b5, 4, none⟩ (.slice none 0 0)).setCell ⟨b5, 5, none⟩ (.slice none 0 0))) = V5 at hJ hHeld ⊢
          refine Rg.rest _ rfl rfl (by kernel_rfl) (by kernel_rfl) ?_
          simp only [List.drop_succ_cons, List.drop_zero]
          obtain ⟨h6, n6⟩ := hJ.x6 _ _ rfl
          obtain ⟨⟨v0, v1, v2, v3, v4, v5⟩, q0, q1, q2, q3, q4, q5⟩ := cells6 h6
          have HJ := Lib.hid hJ
          clear hJ h6 hHeld
          go_wp2_with fail
          go_meet
          exact ⟨_, _, _, _, _, rfl, HJ.out.store6 _ _ _ _ _ _⟩
      · go_simp
        replace hJ := hJ.alloc5 (#[.int .i64 0, .int .i64 0, .int .i64 0, .slice none 0 0, .slice none 0 0, .slice none 0 0])
        refine hK.out _ _ hJ.cells (fun hHeld => ?_)
        clear hK K
        (try simp only [Act.put, List.setIfInBounds_toArray, List.set_cons_zero, List.set_cons_succ, List.getElem_toArray, List.getElem_cons_succ, List.getElem_cons_zero])
        generalize Y6.alloc (.cells #[.int .i64 0, .int .i64 0, .int .i64 0, .slice none 0 0, .slice none 0 0, .slice none 0 0] tAns) = Y5 at hJ hHeld ⊢
        generalize Y6.heap.size = b5 at hJ hHeld ⊢
        refine Rg.one (i := 7) rfl (by kernel_rfl) (by kernel_rfl) (fun K hK => ?_)
        go_simp; go_at_call 53; refine (HL.out _ hJ.up hJ.wr).mono ?_; rintro e X1 ⟨A1, d1, rfl, ho1, hu1, hw1, hk1⟩; simp only [ansVal]
        replace hJ := hJ.call1 hk1 hu1 hw1 ho1
        clear hk1 hu1 hw1 ho1
        refine hK.out _ _ hJ.cells (fun hHeld => ?_)
        clear hK K
        (try simp only [Act.put, List.setIfInBounds_toArray, List.set_cons_zero, List.set_cons_succ, List.getElem_toArray, List.getElem_cons_succ, List.getElem_cons_zero])
        refine Rg.one (i := 15) rfl (by kernel_rfl) (by kernel_rfl) (fun K hK => ?_)
        go_simp; go_at_call 53; refine (HBA.out _ hJ.up hJ.wr).mono ?_; rintro e X2 ⟨A2, d2, rfl, ho2, hu2, hw2, hk2⟩; simp only [ansVal]
        replace hJ := hJ.call2 hk2 hu2 hw2
        clear hk2 hu2 hw2 ho2
        refine hK.out _ _ hJ.cells (fun hHeld => ?_)
        clear hK K
        (try simp only [Act.put, List.setIfInBounds_toArray, List.set_cons_zero, List.set_cons_succ, List.getElem_toArray, List.getElem_cons_succ, List.getElem_cons_zero])
        refine Rg.one (i := 18) rfl (by kernel_rfl) (by kernel_rfl) (fun K hK => ?_)
        obtain ⟨h5, n5⟩ := hJ.x5 _ _ rfl
        obtain ⟨⟨v0, v1, v2, v3, v4, v5⟩, q0, q1, q2, q3, q4, q5⟩ := cells6 h5
        go_simp
        replace hJ := hJ.store5 (.int .i64 8) (.int .i64 0) (.int .i64 0) (.slice A1 0 d1) (.slice none 0 0) (.slice none 0 0)
        clear h5 v0 v1 v2 v3 v4 v5 q0 q1 q2 q3 q4 q5
        refine hK.out _ _ hJ.cells (fun hHeld => ?_)
        clear hK K
        (try simp only [Act.put, List.setIfInBounds_toArray, List.set_cons_zero, List.set_cons_succ, List.getElem_toArray, List.getElem_cons_succ, List.getElem_cons_zero])
        generalize (((((((X2.setCell ⟨b5, 0, none⟩ (.int .i64 8)).setCell ⟨b5, 1, none⟩ (.int .i64 0)).setCell ⟨b5, 2, none⟩ (.int .i64 0)).setCell ⟨b5, 3, none⟩ (.slice A1 0 d1)).setCell ⟨b5, 4, none⟩ (.slice none 0 0)).setCell ⟨b5, 5, none⟩ (.slice none 0 0))) = V5 at hJ hHeld ⊢
        refine Rg.rest _ rfl rfl (by kernel_rfl) (by kernel_rfl) ?_
        simp only [List.drop_succ_cons, List.drop_zero]
        obtain ⟨h6, n6⟩ := hJ.x6 _ _ rfl
        obtain ⟨⟨v0, v1, v2, v3, v4, v5⟩, q0, q1, q2, q3, q4, q5⟩ := cells6 h6
        have HJ := Lib.hid hJ
        clear hJ h6 hHeld
        go_wp2_with fail
        go_meet
        exact ⟨_, _, _, _, _, rfl, HJ.out.store6 _ _ _ _ _ _⟩
  case rest =>
    obtain ⟨b5, b6, A, d, z6, rfl, hJ⟩ := hcut
    obtain ⟨h5, n5⟩ := hJ.x5 _ _ rfl
    obtain ⟨⟨a0, a1, a2, a3, a4, a5⟩, _⟩ := cells6 h5
    have hz := hJ.ans
    obtain ⟨sb, hsb⟩ : ∃ sb, w.heap.size = sb := ⟨_, rfl⟩
    rw [hsb] at hz ⊢
    obtain ⟨⟨z0, z1, z2, z3, z4, z5⟩, q0, q1, q2, q3, q4, q5⟩ := cells6 hz
    have hct : CutT w _ B p m1 hb1 m2 hb2 ob dv1 dv2 s1 s2 (.slice A 0 d) [] (sb + 1) := ⟨hJ.up, hJ.wr, hJ.row _ rfl, Typed.of hz, by rw [hsb]; exact Nat.le_succ _⟩
    have HCT := Lib.hid hct
    have HSB := Lib.hid hsb
    clear hJ h5 hct hz hsb
    go_wp2_with fail
    refine bodyPost_ret (v := ansVal 8 0 0 (.slice A 0 d)) (by simp [results, Tryd.results81, go_sem, ansVal, z0, z1, z2, z3, z4, z5]) rfl ?_
    refine CutT.post (a := ⟨8, 0, 0, []⟩) (ab := sb + 1) ?_
    have hC := HCT.out
    repeat (first | with_reducible exact hC | with_reducible refine CutT.set ?_ _ _ | with_reducible refine CutT.drew ?_)
end
end Sb
end Go.Proofs.YtnkhfdnahnphdaaDoor
end
