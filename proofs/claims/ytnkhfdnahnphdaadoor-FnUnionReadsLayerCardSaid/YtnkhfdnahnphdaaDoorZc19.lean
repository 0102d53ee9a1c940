/- Parts of the proof, merged: Sp2. -/
import Derived.Test.YtnkhfdnahnphdaaDoorZc14
import Derived.Test.YtnkhfdnahnphdaaDoorZc18
section
namespace Go.Proofs.YtnkhfdnahnphdaaDoor
open Go.ChangeShapes Go.WideShapes Go.ChangeAt Go.RowKit Go.Rd Go.Maps
open Go.Proofs.YtnkhfdnahnphdaaDoorW.PrintWords Go.Proofs.YtnkhfdnahnphdaaDoorW.PrintLast Go.Proofs.YtnkhfdnahnphdaaDoorW.PrintMore
set_option linter.unusedVariables false
set_option linter.unusedSimpArgs false
namespace Sb
/-- Two operations may come up: each, and behind each S is shown anew. -/
theorem rg_two {P : Program} {ops : Array Oper} {Q : Exit → Act → World → Prop} {md : Region.Mode} {S : World → Prop} {c i j : Nat} {o o' : Oper} {fuel : Nat} {listed : Array Bool} {a : Act} {w : World} (ho : ops[i]? = some o) (ho' : ops[j]? = some o') (hun : listed.getD c true = false) (hr : Region.ready md ops listed = [i, j])
    (h : ∀ K' : Act → World → Prop, Shut (∀ a w, S w → (S w → Rg.anyD P md ops Q S c fuel (listed.setIfInBounds i true) a w) → K' a w) → if Region.wanted o (yielded ops a.tmps) = true then Oper.wp P o a w K' Q else K' (a.put o.dst undef) w)
    (h' : ∀ K' : Act → World → Prop, Shut (∀ a w, S w → (S w → Rg.anyD P md ops Q S c fuel (listed.setIfInBounds j true) a w) → K' a w) → if Region.wanted o' (yielded ops a.tmps) = true then Oper.wp P o' a w K' Q else K' (a.put o'.dst undef) w) : Rg.anyD P md ops Q S c (fuel + 1) listed a w := by
  refine ⟨fun h0 => (by rw [hun] at h0; cases h0), fun _ => ⟨fun h0 => (by rw [hr] at h0; cases h0), fun q hq => ?_⟩⟩
  rw [hr] at hq
  simp only [List.mem_cons, List.not_mem_nil, or_false] at hq
  rcases hq with rfl | rfl
  · exact wpOp_step ho (fun K' hK => h K' (fun a w hS hW => hK a w ⟨fun _ => hS, hW hS⟩))
  · exact wpOp_step ho' (fun K' hK => h' K' (fun a w hS hW => hK a w ⟨fun _ => hS, hW hS⟩))
theorem of_look {w : World} {ob : Nat} (h : OfIs w ob) (j : Nat) : (Instr.lookup 69 (.map (some ob)) (.int .i64 0) false).run Tryd.prog (w.drewN j) = .ok (.int .i64 3) (w.drewN j) := by
  obtain ⟨es, clk, ho, hr⟩ := h
  exact hr _ ho
def SoftT (t : TypeId) : Prop := t = tH ∨ t = tN
theorem nsStep : ¬ SoftT tStep := by unfold SoftT; decide
theorem nsAns : ¬ SoftT tAns := by unfold SoftT; decide
theorem nsPair : ¬ SoftT tPair := by unfold SoftT; decide
theorem both_soft {w : World} {B p m1 hb1 m2 hb2 ob : Nat} {dv1 dv2 : Value} {s1 s2 : St} (h : UP w B p m1 hb1 m2 hb2 ob dv1 dv2 s1 s2) : Soft w (Both hb1 hb2 dv1 dv2) := by
  obtain ⟨hp, ⟨t1, h1⟩, ⟨t2, h2⟩, _, _⟩ := h
  refine ⟨fun k c ty fr hs hc => ?_, fun k es clk hs => ?_⟩
  · rcases hs with hs | hs
    · exact h1.soft.1 k c ty fr hs hc
    · exact h2.soft.1 k c ty fr hs hc
  · rcases hs with hs | hs
    · exact h1.soft.2 k es clk hs
    · exact h2.soft.2 k es clk hs
theorem keep_of {w w' : World} {S : Nat → Prop} (hw : Wrote S w w') (hS : Soft w S) : KeepT SoftT w w' := fun k c t fr hk ht =>
  (hw.block k (lt_of_heap hk) (fun hs => ht (hS.1 k c t fr hs hk))).trans hk
/-- Do in the layer, as the walk wants it. -/
def LayPost (w W : World) (B p m1 hb1 m2 hb2 ob : Nat) (dv1 dv2 : Value) (s1 s' : St) (a : Ans) (e : Ending) (w' : World) : Prop :=
  ∃ A c, e = .returned (ansVal a.e a.n a.off (.slice A a.data.length c)) ∧ w'.ownsRow w.heap.size 5 1 (.slice A a.data.length c) a.data.length (a.data.map (.int .u8)) ∧ UP w' B p m1 hb1 m2 hb2 ob dv1 dv2 s1 s' ∧ Wrote (Both hb1 hb2 dv1 dv2) w w' ∧ KeepT SoftT W w' ∧ W.heap.size ≤ w'.heap.size
theorem UM.ans {w : World} {B m hb ab : Nat} {dv : Value} {s : St} {t : Int} (h : UM w B m hb dv s t) (ht : Typed w ab tAns) (j : Nat) (u : Value) : UM (w.setCell ⟨ab, j, none⟩ u) B m hb dv s t := by
  obtain ⟨⟨nv, av, mb, nm, F, names, ats, hM, hP, hF, hN, hA, hl, hl2⟩, hh, hn⟩ := h
  have hrow : ∀ {v : Value} {n : Nat} {xs : List Value} {ty : TypeId}, ty ≠ tAns → w.ownsRow B ty 1 v n xs → (w.setCell ⟨ab, j, none⟩ u).ownsRow B ty 1 v n xs := fun h1 ho => own_move ho (fun k hk => Below.heap_setCell _ _ _ _ (fun e => by
    obtain ⟨c, hc⟩ := own_typed ho k hk
    obtain ⟨c', fr, hc'⟩ := ht
    exact blk_ne hc hc' h1 e))
  refine ⟨⟨nv, av, mb, nm, F, names, ats, ?_, ?_, hF, hrow (by decide) hN, hrow (by decide) hA, hl, hl2⟩, hand_set (p := ⟨ab, j, none⟩) hh ht (by decide) u, nodes_set (ab := ab) (p := ⟨ab, j, none⟩) hn ht (by decide) (by decide) u⟩
  · obtain ⟨c', fr, hc'⟩ := ht
    exact (Below.heap_setCell _ _ _ _ (fun e => blk_ne hM hc' (by decide) e)).trans hM
  · obtain ⟨c', fr, hc'⟩ := ht
    exact hP.same (Below.heap_setCell _ _ _ _ (fun e => hP.ne_cells hc' e.symm))
theorem UP.ans {w : World} {B p m1 hb1 m2 hb2 ob ab : Nat} {dv1 dv2 : Value} {s1 s2 : St} (h : UP w B p m1 hb1 m2 hb2 ob dv1 dv2 s1 s2) (ht : Typed w ab tAns) (j : Nat) (u : Value) : UP (w.setCell ⟨ab, j, none⟩ u) B p m1 hb1 m2 hb2 ob dv1 dv2 s1 s2 := by
  obtain ⟨⟨hb, es, clk, ho, hr⟩, ⟨t1, h1⟩, ⟨t2, h2⟩, hne, hap⟩ := h
  refine ⟨⟨?_, es, clk, ?_, hr⟩, ⟨t1, h1.ans ht j u⟩, ⟨t2, h2.ans ht j u⟩, hne, hap⟩
  · obtain ⟨c', fr, hc'⟩ := ht
    exact (Below.heap_setCell _ _ _ _ (fun e => blk_ne hb hc' (by decide) e)).trans hb
  · obtain ⟨c', fr, hc'⟩ := ht
    refine (Below.heap_setCell _ _ _ _ (fun e => ?_)).trans ho
    subst e
    rw [ho] at hc'
    cases hc'
theorem ans_stored {w : World} {ab : Nat} {z0 z1 z2 z3 z4 z5 : Value} (a0 a1 a2 a3 a4 a5 : Value) (h : w.heap[ab]? = some (.cells #[z0, z1, z2, z3, z4, z5] tAns (0, 0))) :
    ((((((w.setCell ⟨ab, 0, none⟩ a0).setCell ⟨ab, 1, none⟩ a1).setCell ⟨ab, 2, none⟩ a2).setCell ⟨ab, 3, none⟩ a3).setCell ⟨ab, 4, none⟩ a4).setCell ⟨ab, 5, none⟩ a5).heap[ab]? = some (.cells #[a0, a1, a2, a3, a4, a5] tAns (0, 0)) :=
  Go.Rd.heap_setCell_same (Go.Rd.heap_setCell_same (Go.Rd.heap_setCell_same (Go.Rd.heap_setCell_same (Go.Rd.heap_setCell_same (Go.Rd.heap_setCell_same h a0) a1) a2) a3) a4) a5
/-- What is so as the answer's own block is written. -/
structure CutS (w wx : World) (B p m1 hb1 m2 hb2 ob : Nat) (dv1 dv2 : Value) (s1 s2 : St) (v : Value) (d : List Int) (sb : Nat) (so ao : Obj) (ab : Nat) : Prop where
  up : UP wx B p m1 hb1 m2 hb2 ob dv1 dv2 s1 s2
  wr : Wrote (Both hb1 hb2 dv1 dv2) w wx
  row : wx.ownsRow w.heap.size 5 1 v d.length (d.map (.int .u8))
  stp : wx.heap[sb]? = some so
  ans : wx.heap[sb + 1]? = some ao
  typ : Typed wx ab tAns
  new : w.heap.size ≤ ab
  n1 : sb ≠ ab
  n2 : sb + 1 ≠ ab
theorem CutS.set {w wx : World} {B p m1 hb1 m2 hb2 ob : Nat} {dv1 dv2 : Value} {s1 s2 : St} {v : Value} {d : List Int} {sb : Nat} {so ao : Obj} {ab : Nat} (c : CutS w wx B p m1 hb1 m2 hb2 ob dv1 dv2 s1 s2 v d sb so ao ab) (j : Nat) (u : Value) : CutS w (wx.setCell ⟨ab, j, none⟩ u) B p m1 hb1 m2 hb2 ob dv1 dv2 s1 s2 v d sb so ao ab where
  up := c.up.ans c.typ j u
  wr := wrote_new (p := ⟨ab, j, none⟩) c.wr c.new u
  row := row_set (p := ⟨ab, j, none⟩) c.row c.typ (by decide) u
  stp := setCell_keeps c.stp (a := ⟨ab, j, none⟩) c.n1 u
  ans := setCell_keeps c.ans (a := ⟨ab, j, none⟩) c.n2 u
  typ := c.typ.set _ u
  new := c.new
  n1 := c.n1
  n2 := c.n2
/-- The answer lies in a block of its own. -/
def AnsAt (w0 wx : World) (ab : Nat) (a : Ans) : Prop := ∃ A c, wx.heap[ab]? = some (.cells #[.int .i64 a.e, .int .i64 a.n, .int .i64 a.off, .slice A a.data.length c, .slice none 0 0, .slice none 0 0] tAns (0, 0)) ∧ wx.ownsRow w0.heap.size 5 1 (.slice A a.data.length c) a.data.length (a.data.map (.int .u8))
structure CutT (w wx : World) (B p m1 hb1 m2 hb2 ob : Nat) (dv1 dv2 : Value) (s1 s2 : St) (v : Value) (d : List Int) (ab : Nat) : Prop where
  up : UP wx B p m1 hb1 m2 hb2 ob dv1 dv2 s1 s2
  wr : Wrote (Both hb1 hb2 dv1 dv2) w wx
  row : wx.ownsRow w.heap.size 5 1 v d.length (d.map (.int .u8))
  typ : Typed wx ab tAns
  new : w.heap.size ≤ ab
theorem CutT.set {w wx : World} {B p m1 hb1 m2 hb2 ob : Nat} {dv1 dv2 : Value} {s1 s2 : St} {v : Value} {d : List Int} {ab : Nat} (c : CutT w wx B p m1 hb1 m2 hb2 ob dv1 dv2 s1 s2 v d ab) (j : Nat) (u : Value) : CutT w (wx.setCell ⟨ab, j, none⟩ u) B p m1 hb1 m2 hb2 ob dv1 dv2 s1 s2 v d ab where
  up := c.up.ans c.typ j u
  wr := wrote_new (p := ⟨ab, j, none⟩) c.wr c.new u
  row := row_set (p := ⟨ab, j, none⟩) c.row c.typ (by decide) u
  typ := c.typ.set _ u
  new := c.new
theorem CutT.drew {w wx : World} {B p m1 hb1 m2 hb2 ob : Nat} {dv1 dv2 : Value} {s1 s2 : St} {v : Value} {d : List Int} {ab : Nat} (c : CutT w wx B p m1 hb1 m2 hb2 ob dv1 dv2 s1 s2 v d ab) : CutT w wx.drew B p m1 hb1 m2 hb2 ob dv1 dv2 s1 s2 v d ab where
  up := c.up.below (pw_below_drewN (Below.refl _ _) 1)
  wr := c.wr.drewN 1
  row := pw_own_below c.row (pw_below_drewN (Below.refl _ _) 1)
  typ := c.typ
  new := c.new
theorem CutT.post {w W : World} {B p m1 hb1 m2 hb2 ob : Nat} {dv1 dv2 : Value} {s1 s2 : St} {v : Value} {a : Ans} {ab : Nat} (c : CutT w W B p m1 hb1 m2 hb2 ob dv1 dv2 s1 s2 v a.data ab) : ∃ v', Ending.returned (ansVal a.e a.n a.off v) = .returned (ansVal a.e a.n a.off v') ∧ W.ownsRow w.heap.size 5 1 v' a.data.length (a.data.map (.int .u8)) ∧ UP W B p m1 hb1 m2 hb2 ob dv1 dv2 s1 s2 ∧ Wrote (Both hb1 hb2 dv1 dv2) w W := ⟨v, rfl, c.row, c.up, c.wr⟩
/-- Moving on by so many bytes. -/
def onStp (n : Int) : Stp := ⟨16, ⟨#[]⟩, ⟨#[]⟩, 0, 0, 0, none, 0, 0, n, 1, 0⟩
theorem on_op (n : Int) : OpU (onStp n, []) := by unfold OpU onStp; simp
theorem on_spk (s : St) {n : Int} (h0 : 0 ≤ n) (h1 : n ≤ 4096) : SpkW s (onStp n, []) where
  dl := Nat.zero_le _
  fits := fun _ _ => by simp only [onStp]; omega
  read := fun h => by simp [onStp] at h
  write := fun h => by simp [onStp] at h
  writeAt := fun h => by simp [onStp] at h
  trunc := fun h => by simp [onStp] at h
theorem doB_on {b : St} {x : Sx} (a : Ans) (h : x.1.op = 12) : doB b x a = (doF b (onStp a.data.length, [])).2 := by
  unfold doB doF onStp
  simp only [h]
  cases hc : b.cl <;> simp [skTo, hc]
/-- Do in the base, as the walk wants it. -/
def BasePost (w W : World) (B p m1 hb1 m2 hb2 ob : Nat) (dv1 dv2 : Value) (s' s2 : St) (e : Ending) (w' : World) : Prop :=
  ∃ v, e = .returned v ∧ UP w' B p m1 hb1 m2 hb2 ob dv1 dv2 s' s2 ∧ Wrote (Both hb1 hb2 dv1 dv2) w w' ∧ KeepT SoftT W w' ∧ (∀ (v : Value) (n : Nat) (xs : List Value), W.ownsRow w.heap.size 5 1 v n xs → w'.ownsRow w.heap.size 5 1 v n xs)
set_option maxRecDepth 100000 in
set_option maxHeartbeats 4000000 in
theorem cache_file (B p m1 hb1 m2 hb2 ob k : Nat) (dv1 dv2 : Value) (s1 s2 : St) (x : Sx) (w : World) (hU : UP w B p m1 hb1 m2 hb2 ob dv1 dv2 s1 s2) (hx : x.1.h = 0) (hO : OpU x) (hnl : x.1.op ≠ 19 ∧ x.1.op ≠ 20) (hS1 : SpkW s1 x) (hS2 : SpkW s2 x) (hG1 : Good k s1) (hG2 : Good k s2) (hk : k ≤ 1000000) (hb : BytesIn w x.1.da x.1.dl x.1.dc x.2) (hB : B ≤ w.heap.size) (hdl : (doF s2 x).1.data.length ≤ 4096) (hbw : ∀ W : World, Wrote (Both hb1 hb2 dv1 dv2) w W → BytesIn W x.1.da x.1.dl x.1.dc x.2) :
    Calls Tryd.prog 29 #[.pointer (some ⟨p, 0, none⟩), x.1.val] w fun e w' => ∃ v, e = .returned (ansVal (doF s2 x).1.e (doF s2 x).1.n (doF s2 x).1.off v) ∧ w'.ownsRow w.heap.size 5 1 v (doF s2 x).1.data.length ((doF s2 x).1.data.map (.int .u8)) ∧ UP w' B p m1 hb1 m2 hb2 ob dv1 dv2 (doB s1 x (doF s2 x).1) (doF s2 x).2 ∧ Wrote (Both hb1 hb2 dv1 dv2) w w' := by
  have hlay : ∀ (W : World), Below w.heap.size w W → Calls Tryd.prog 53 #[.pointer (some ⟨m2, 0, none⟩), .int .i64 0, x.1.val] W (LayPost w W B p m1 hb1 m2 hb2 ob dv1 dv2 s1 (doF s2 x).2 (doF s2 x).1) := fun W hb0 => (up_layer (hU.below hb0) k 0 x hx hO hS2 hG2 hk (hb.below hb0) (Nat.le_trans hB hb0.size)).mono (by
    rintro e w' ⟨v, rfl, ho, hu, hw⟩
    obtain ⟨A, c, rfl⟩ := own_slice ho
    exact ⟨A, c, rfl, row_le ho hb0.size, hu, (Wrote.of_below hb0).trans hw, keep_of hw (both_soft (hU.below hb0)), hw.size⟩)
  have hrow5 : ∀ {W w' : World} {s' : St}, UP W B p m1 hb1 m2 hb2 ob dv1 dv2 s1 s' → Wrote (Both hb1 hb2 dv1 dv2) W w' → ∀ (v : Value) (n : Nat) (xs : List Value), W.ownsRow w.heap.size 5 1 v n xs → w'.ownsRow w.heap.size 5 1 v n xs := fun hu hw v n xs ho => own_move ho (fun q hq => hw.block q (own_lt ho q hq) (fun hs => by
    obtain ⟨c, hc⟩ := own_typed ho q hq
    rcases (both_soft hu).1 q c _ _ hs hc with e | e
    · exact absurd e (by decide)
    · exact absurd e (by decide)))
  have hbase : ∀ (W : World), UP W B p m1 hb1 m2 hb2 ob dv1 dv2 s1 (doF s2 x).2 → Wrote (Both hb1 hb2 dv1 dv2) w W → Calls Tryd.prog 53 #[.pointer (some ⟨m1, 0, none⟩), .int .i64 0, x.1.val] W (BasePost w W B p m1 hb1 m2 hb2 ob dv1 dv2 (doF s1 x).2 (doF s2 x).2) := fun W hu hw0 => (up_base hu k 0 x hx hO hS1 hG1 hk (hbw W hw0) (Nat.le_trans hB hw0.size)).mono (by
    rintro e w' ⟨v, rfl, ho, hu', hw⟩
    exact ⟨_, rfl, hu', hw0.trans hw, keep_of hw (both_soft hu), hrow5 hu hw⟩)
  have hon : ∀ (W : World), UP W B p m1 hb1 m2 hb2 ob dv1 dv2 s1 (doF s2 x).2 → Wrote (Both hb1 hb2 dv1 dv2) w W → Calls Tryd.prog 53 #[.pointer (some ⟨m1, 0, none⟩), .int .i64 0, (onStp (doF s2 x).1.data.length).val] W (BasePost w W B p m1 hb1 m2 hb2 ob dv1 dv2 (doF s1 (onStp (doF s2 x).1.data.length, [])).2 (doF s2 x).2) := fun W hu hw0 => (up_base hu k 0 (onStp (doF s2 x).1.data.length, []) rfl (on_op _) (on_spk _ (by omega) (by omega)) hG1 hk (bytes_none W) (Nat.le_trans hB hw0.size)).mono (by
    rintro e w' ⟨v, rfl, ho, hu', hw⟩
    exact ⟨_, rfl, hu', hw0.trans hw, keep_of hw (both_soft hu), hrow5 hu hw⟩)
  have hdb : x.1.op = 12 → doB s1 x (doF s2 x).1 = (doF s1 (onStp (doF s2 x).1.data.length, [])).2 := fun h => doB_on _ h
  have hdb0 : x.1.op ≠ 12 → (doF s2 x).1.e = 0 → doB s1 x (doF s2 x).1 = (doF s1 x).2 := fun h h' => by unfold doB; rw [if_neg (by omega), if_neg h, if_pos h']
  have hdb1 : x.1.op ≠ 12 → (doF s2 x).1.e ≠ 0 → doB s1 x (doF s2 x).1 = s1 := fun h h' => by unfold doB; rw [if_neg (by omega), if_neg h, if_neg h']
  generalize doB s1 x (doF s2 x).1 = sB at *
  obtain ⟨⟨op, name, other, flag, perm, hh, da, dl, dc, off, wh, n⟩, b⟩ := x
  simp only at hx hnl hdb hdb0 hdb1
  subst hx
  have e19 : (op == 19) = false := beq_eq_false_iff_ne.2 hnl.1
  have e20 : (op == 20) = false := beq_eq_false_iff_ne.2 hnl.2
  unfold Stp.val at hlay hbase hon ⊢
  simp only [onStp] at hlay hbase hon hdb ⊢
  generalize doF s2 (_, b) = D at *
  have HL := Lib.hid hlay
  have HBA := Lib.hid hbase
  have HON := Lib.hid hon
  have HD := Lib.hid hdb
  have HD0 := Lib.hid hdb0
  have HD1 := Lib.hid hdb1
  clear hbase hon hdb hdb0 hdb1 hrow5 hdl
  have HU := Lib.hid hU
  clear hlay hU
  go_enter Tryd.func29, Tryd.ntmps29
  go_upto_region 1 with fail
  refine world_as (fun W => Below w.heap.size w W ∧ W.heap[w.heap.size]? = some (.cells #[.int .i64 op, .string name, .string other, .int .i64 flag, .int .i64 perm, .int .i64 0, .slice da dl dc, .int .i64 off, .int .i64 wh, .int .i64 n] tStep (0, 0)) ∧ W.heap[w.heap.size + 1]? = some (.cells #[.int .i64 0, .int .i64 0, .int .i64 0, .slice none 0 0, .slice none 0 0, .slice none 0 0] tAns (0, 0))) ⟨two_below _ _ _, two_old _ _ _, two_new _ _ _⟩ (fun W hW => ?_)
  obtain ⟨hB0, hs0, ha0⟩ := hW
  have hp0 := (HU.out.below hB0).pair.blk
  have hlook := of_look (HU.out.below hB0).pair.of_
  have p0 := (cell_of hp0 0).trans rfl
  have p1 := (cell_of hp0 1).trans rfl
  have p2 := (cell_of hp0 2).trans rfl
  have s0 := (cell_of hs0 0).trans rfl
  have s1' := (cell_of hs0 1).trans rfl
  have s2' := (cell_of hs0 2).trans rfl
  have s3 := (cell_of hs0 3).trans rfl
  have s4 := (cell_of hs0 4).trans rfl
  have s5 := (cell_of hs0 5).trans rfl
  have s6 := (cell_of hs0 6).trans rfl
  have s7 := (cell_of hs0 7).trans rfl
  have s8 := (cell_of hs0 8).trans rfl
  have s9 := (cell_of hs0 9).trans rfl
  have HB0 := Lib.hid hB0
  have HS0 := Lib.hid hs0
  have HA0 := Lib.hid ha0
  have HP0 := Lib.hid hp0
  obtain ⟨sb, hsb⟩ : ∃ sb, w.heap.size = sb := ⟨_, rfl⟩
  rw [hsb] at s0 s1' s2' s3 s4 s5 s6 s7 s8 s9 HS0 HA0 ⊢
  have HSB := Lib.hid hsb
  clear hB0 hs0 ha0 hp0 hsb
  go_upto_region 1 with fail
  go_quiet (fail)
  go_upto_region 3 with fail
  go_cut [5] (fun u wx => ∃ ab, u = .pointer (some ⟨ab, 0, none⟩) ∧ AnsAt w wx ab D.1 ∧ UP wx B p m1 hb1 m2 hb2 ob dv1 dv2 s1 D.2 ∧ Wrote (Both hb1 hb2 dv1 dv2) w wx ∧ wx.heap[sb]? = some (.cells #[.int .i64 op, .string name, .string other, .int .i64 flag, .int .i64 perm, .int .i64 0, .slice da dl dc, .int .i64 off, .int .i64 wh, .int .i64 n] tStep (0, 0)) ∧ wx.heap[sb + 1]? = some (.cells #[.int .i64 0, .int .i64 0, .int .i64 0, .slice none 0 0, .slice none 0 0, .slice none 0 0] tAns (0, 0)))
  case first =>
    refine Rg.start 9 (fun w' => w'.cell? ⟨p, 1, none⟩ = some (.pointer (some ⟨m2, 0, none⟩)) ∧ w'.cell? ⟨sb, 0, none⟩ = some (.int .i64 op) ∧ w'.cell? ⟨sb, 1, none⟩ = some (.string name) ∧ w'.cell? ⟨sb, 2, none⟩ = some (.string other) ∧ w'.cell? ⟨sb, 3, none⟩ = some (.int .i64 flag) ∧ w'.cell? ⟨sb, 4, none⟩ = some (.int .i64 perm) ∧ w'.cell? ⟨sb, 5, none⟩ = some (.int .i64 0) ∧ w'.cell? ⟨sb, 6, none⟩ = some (.slice da dl dc) ∧ w'.cell? ⟨sb, 7, none⟩ = some (.int .i64 off) ∧ w'.cell? ⟨sb, 8, none⟩ = some (.int .i64 wh) ∧ w'.cell? ⟨sb, 9, none⟩ = some (.int .i64 n)) (by kernel_rfl) ⟨p1, s0, s1', s2', s3, s4, s5, s6, s7, s8, s9⟩ (fun hHeld => ?_)
    refine Rg.take (i := 0) (v := ?_) rfl (by kernel_rfl) (by kernel_rfl) (by kernel_rfl) (by kernel_rfl) (by kernel_rfl) (by kernel_rfl) (fun _ _ _ h => h) (Or.inl ⟨by rfl, ?_⟩) (by assumption) ?_
    rotate_left
    · (intro w hSw; (try dsimp only at hSw); go_split_ands; go_simp) <;> with_reducible rfl
    (try simp only [Act.put, List.setIfInBounds_toArray, List.set_cons_zero, List.set_cons_succ, List.getElem_toArray, List.getElem_cons_succ, List.getElem_cons_zero])
    refine Rg.take (i := 1) (v := ?_) rfl (by kernel_rfl) (by kernel_rfl) (by kernel_rfl) (by kernel_rfl) (by kernel_rfl) (by kernel_rfl) (fun _ _ _ h => h) (Or.inl ⟨by rfl, ?_⟩) (by assumption) ?_
    rotate_left
    · (intro w hSw; (try dsimp only at hSw); go_split_ands; go_simp) <;> with_reducible rfl
    (try simp only [Act.put, List.setIfInBounds_toArray, List.set_cons_zero, List.set_cons_succ, List.getElem_toArray, List.getElem_cons_succ, List.getElem_cons_zero])
    refine Rg.take (i := 2) (v := ?_) rfl (by kernel_rfl) (by kernel_rfl) (by kernel_rfl) (by kernel_rfl) (by kernel_rfl) (by kernel_rfl) (fun _ _ _ h => h) (Or.inl ⟨by rfl, ?_⟩) (by assumption) ?_
    rotate_left
    · (intro w hSw; (try dsimp only at hSw); go_split_ands; go_simp) <;> with_reducible rfl
    (try simp only [Act.put, List.setIfInBounds_toArray, List.set_cons_zero, List.set_cons_succ, List.getElem_toArray, List.getElem_cons_succ, List.getElem_cons_zero])
    refine Rg.take (i := 3) (v := ?_) rfl (by kernel_rfl) (by kernel_rfl) (by kernel_rfl) (by kernel_rfl) (by kernel_rfl) (by kernel_rfl) (fun _ _ _ h => h) (Or.inl ⟨by rfl, ?_⟩) (by assumption) ?_
    rotate_left
    · (intro w hSw; (try dsimp only at hSw); go_split_ands; go_simp) <;> with_reducible rfl
    (try simp only [Act.put, List.setIfInBounds_toArray, List.set_cons_zero, List.set_cons_succ, List.getElem_toArray, List.getElem_cons_succ, List.getElem_cons_zero])
    refine Rg.take (i := 4) (v := ?_) rfl (by kernel_rfl) (by kernel_rfl) (by kernel_rfl) (by kernel_rfl) (by kernel_rfl) (by kernel_rfl) (fun _ _ _ h => h) (Or.inl ⟨by rfl, ?_⟩) (by assumption) ?_
    rotate_left
    · (intro w hSw; (try dsimp only at hSw); go_split_ands; go_simp) <;> with_reducible rfl
    (try simp only [Act.put, List.setIfInBounds_toArray, List.set_cons_zero, List.set_cons_succ, List.getElem_toArray, List.getElem_cons_succ, List.getElem_cons_zero])
    refine Rg.take (i := 5) (v := ?_) rfl (by kernel_rfl) (by kernel_rfl) (by kernel_rfl) (by kernel_rfl) (by kernel_rfl) (by kernel_rfl) (fun _ _ _ h => h) (Or.inl ⟨by rfl, ?_⟩) (by assumption) ?_
    rotate_left
    · (intro w hSw; (try dsimp only at hSw); go_split_ands; go_simp) <;> with_reducible rfl
    (try simp only [Act.put, List.setIfInBounds_toArray, List.set_cons_zero, List.set_cons_succ, List.getElem_toArray, List.getElem_cons_succ, List.getElem_cons_zero])
    refine Rg.take (i := 6) (v := ?_) rfl (by kernel_rfl) (by kernel_rfl) (by kernel_rfl) (by kernel_rfl) (by kernel_rfl) (by kernel_rfl) (fun _ _ _ h => h) (Or.inl ⟨by rfl, ?_⟩) (by assumption) ?_
    rotate_left
    · (intro w hSw; (try dsimp only at hSw); go_split_ands; go_simp) <;> with_reducible rfl
    (try simp only [Act.put, List.setIfInBounds_toArray, List.set_cons_zero, List.set_cons_succ, List.getElem_toArray, List.getElem_cons_succ, List.getElem_cons_zero])
    refine rg_two (i := 7) (j := 8) rfl rfl (by kernel_rfl) (by kernel_rfl) (fun K hK => ?_) (fun K hK => ?_)
    · go_simp; go_at_call 53; refine (HL.out _ (pw_below_drewN HB0.out (nq + 1))).mono ?_; rintro e W3 ⟨VA, vc3, rfl, ho3, hU3, hw3, hk3, hz3⟩; simp only [ansVal]; have hs3 := hk3 _ _ _ _ (drewN_keeps HS0.out (nq + 1)) nsStep; have hp3 := hk3 _ _ _ _ (drewN_keeps HP0.out (nq + 1)) nsPair; have ha3 := hk3 _ _ _ _ (drewN_keeps HA0.out (nq + 1)) nsAns
      refine hK.out _ _ ⟨(cell_of (hp3) 1).trans rfl, (cell_of (hs3) 0).trans rfl, (cell_of (hs3) 1).trans rfl, (cell_of (hs3) 2).trans rfl, (cell_of (hs3) 3).trans rfl, (cell_of (hs3) 4).trans rfl, (cell_of (hs3) 5).trans rfl, (cell_of (hs3) 6).trans rfl, (cell_of (hs3) 7).trans rfl, (cell_of (hs3) 8).trans rfl, (cell_of (hs3) 9).trans rfl⟩ (fun hHeld => ?_)
      clear hK K
      (try simp only [Act.put, List.setIfInBounds_toArray, List.set_cons_zero, List.set_cons_succ, List.getElem_toArray, List.getElem_cons_succ, List.getElem_cons_zero])
      refine Rg.one (i := 8) rfl (by kernel_rfl) (by kernel_rfl) (fun K hK => ?_)
      go_simp
      refine hK.out _ _ ⟨(cell_of (alloc_keeps hp3 _) 1).trans rfl, (cell_of (alloc_keeps hs3 _) 0).trans rfl, (cell_of (alloc_keeps hs3 _) 1).trans rfl, (cell_of (alloc_keeps hs3 _) 2).trans rfl, (cell_of (alloc_keeps hs3 _) 3).trans rfl, (cell_of (alloc_keeps hs3 _) 4).trans rfl, (cell_of (alloc_keeps hs3 _) 5).trans rfl, (cell_of (alloc_keeps hs3 _) 6).trans rfl, (cell_of (alloc_keeps hs3 _) 7).trans rfl, (cell_of (alloc_keeps hs3 _) 8).trans rfl, (cell_of (alloc_keeps hs3 _) 9).trans rfl⟩ (fun hHeld => ?_)
      clear hK K
      (try simp only [Act.put, List.setIfInBounds_toArray, List.set_cons_zero, List.set_cons_succ, List.getElem_toArray, List.getElem_cons_succ, List.getElem_cons_zero])
      refine Rg.rest _ rfl rfl (by kernel_rfl) (by kernel_rfl) ?_
      simp only [List.drop_succ_cons, List.drop_zero]
      have HO3 := Lib.hid ho3
      have HU3 := Lib.hid hU3
      have HW3 := Lib.hid hw3
      have HS3 := Lib.hid hs3
      have HA3 := Lib.hid ha3
      clear ho3 hU3 hw3 hk3 hz3 hs3 ha3 hp3
      go_wp2_with fail
      go_meet
      exact ⟨_, rfl, ⟨VA, vc3, alloc_new _ _, HO3.out.alloc _⟩, HU3.out.below ((Below.refl _ _).alloc (Nat.le_refl _) _), HW3.out.alloc _, alloc_keeps HS3.out _, alloc_keeps HA3.out _⟩
    · go_simp
      refine hK.out _ _ ⟨(cell_of (alloc_keeps (drewN_keeps HP0.out (nq + 1)) _) 1).trans rfl, (cell_of (alloc_keeps (drewN_keeps HS0.out (nq + 1)) _) 0).trans rfl, (cell_of (alloc_keeps (drewN_keeps HS0.out (nq + 1)) _) 1).trans rfl, (cell_of (alloc_keeps (drewN_keeps HS0.out (nq + 1)) _) 2).trans rfl, (cell_of (alloc_keeps (drewN_keeps HS0.out (nq + 1)) _) 3).trans rfl, (cell_of (alloc_keeps (drewN_keeps HS0.out (nq + 1)) _) 4).trans rfl, (cell_of (alloc_keeps (drewN_keeps HS0.out (nq + 1)) _) 5).trans rfl, (cell_of (alloc_keeps (drewN_keeps HS0.out (nq + 1)) _) 6).trans rfl, (cell_of (alloc_keeps (drewN_keeps HS0.out (nq + 1)) _) 7).trans rfl, (cell_of (alloc_keeps (drewN_keeps HS0.out (nq + 1)) _) 8).trans rfl, (cell_of (alloc_keeps (drewN_keeps HS0.out (nq + 1)) _) 9).trans rfl⟩ (fun hHeld => ?_)
      clear hK K
      (try simp only [Act.put, List.setIfInBounds_toArray, List.set_cons_zero, List.set_cons_succ, List.getElem_toArray, List.getElem_cons_succ, List.getElem_cons_zero])
      refine Rg.one (i := 7) rfl (by kernel_rfl) (by kernel_rfl) (fun K hK => ?_)
      go_simp; go_at_call 53; refine (HL.out _ ((pw_below_drewN HB0.out (nq + 1)).alloc HB0.out.size _)).mono ?_; rintro e W3 ⟨VA, vc3, rfl, ho3, hU3, hw3, hk3, hz3⟩; simp only [ansVal]; have hs3 := hk3 _ _ _ _ (alloc_keeps (drewN_keeps HS0.out (nq + 1)) _) nsStep; have hp3 := hk3 _ _ _ _ (alloc_keeps (drewN_keeps HP0.out (nq + 1)) _) nsPair; have ha3 := hk3 _ _ _ _ (alloc_keeps (drewN_keeps HA0.out (nq + 1)) _) nsAns
      have hz : W3.heap[W.heap.size]? = some (.cells #[.int .i64 0, .int .i64 0, .int .i64 0, .slice none 0 0, .slice none 0 0, .slice none 0 0] tAns (0, 0)) := hk3 _ _ _ _ (alloc_new _ _) nsAns
      refine hK.out _ _ ⟨(cell_of (hp3) 1).trans rfl, (cell_of (hs3) 0).trans rfl, (cell_of (hs3) 1).trans rfl, (cell_of (hs3) 2).trans rfl, (cell_of (hs3) 3).trans rfl, (cell_of (hs3) 4).trans rfl, (cell_of (hs3) 5).trans rfl, (cell_of (hs3) 6).trans rfl, (cell_of (hs3) 7).trans rfl, (cell_of (hs3) 8).trans rfl, (cell_of (hs3) 9).trans rfl⟩ (fun hHeld => ?_)
      clear hK K
      (try simp only [Act.put, List.setIfInBounds_toArray, List.set_cons_zero, List.set_cons_succ, List.getElem_toArray, List.getElem_cons_succ, List.getElem_cons_zero])
      refine Rg.rest _ rfl rfl (by kernel_rfl) (by kernel_rfl) ?_
      simp only [List.drop_succ_cons, List.drop_zero]
      obtain ⟨⟨v0, v1, v2, v3, v4, v5⟩, q0, q1, q2, q3, q4, q5⟩ := cells6 hz
      have c0 : CutS w W3 B p m1 hb1 m2 hb2 ob dv1 dv2 s1 D.2 (.slice VA D.1.data.length vc3) D.1.data sb _ _ W.heap.size := ⟨hU3, hw3, ho3, hs3, ha3, Typed.of hz, HB0.out.size, (by have := lt_of_heap HS0.out; omega), (by have := lt_of_heap HA0.out; omega)⟩
      have HZ := Lib.hid hz
      have HC0 := Lib.hid c0
      clear hz c0 ho3 hU3 hw3 hk3 hz3
      go_wp2_with fail
      go_meet
      have hz := HZ.out
      have c0 := HC0.out
      have c6 := (((((c0.set 0 (.int .i64 D.1.e)).set 1 (.int .i64 D.1.n)).set 2 (.int .i64 D.1.off)).set 3 (.slice VA D.1.data.length vc3)).set 4 (.slice none 0 0)).set 5 (.slice none 0 0)
      exact ⟨_, rfl, ⟨VA, vc3, ans_stored _ _ _ _ _ _ hz, c6.row⟩, c6.up, c6.wr, c6.stp, c6.ans⟩
  case rest =>
    obtain ⟨ab, rfl, ⟨AA, ac, hab, hrow⟩, hU4, hW4, hstp, hans⟩ := hcut
    have hp4 := hU4.pair.blk
    clear p0 p1 p2 s0 s1' s2' s3 s4 s5 s6 s7 s8 s9 hlook
    have p0 := (cell_of hp4 0).trans rfl
    have z0 := (cell_of hstp 0).trans rfl
    have z1 := (cell_of hstp 1).trans rfl
    have z2 := (cell_of hstp 2).trans rfl
    have z3 := (cell_of hstp 3).trans rfl
    have z4 := (cell_of hstp 4).trans rfl
    have z5 := (cell_of hstp 5).trans rfl
    have z6 := (cell_of hstp 6).trans rfl
    have z7 := (cell_of hstp 7).trans rfl
    have z8 := (cell_of hstp 8).trans rfl
    have z9 := (cell_of hstp 9).trans rfl
    obtain ⟨⟨a0, a1, a2, a3, a4, a5⟩, _⟩ := cells6 hab
    have HU4 := Lib.hid hU4
    have HW4 := Lib.hid hW4
    have HAB := Lib.hid hab
    have HANS := Lib.hid hans
    have HROW := Lib.hid hrow
    clear hU4 hW4 hab hans hrow hp4 hstp
    by_cases h12 : op = 12
    · have e12 : (op == 12) = true := by simp [h12]
      go_upto_region 5 with fail
      refine still_tail' 12 (by kernel_rfl) (by kernel_rfl) ?_
      simp only [List.take_succ_cons, List.take_zero, List.drop_succ_cons, List.drop_zero]
      repeat still_step
      refine wpStill_nil ?_
      go_wp2_with fail
      refine (HON.out _ (HU4.out.below (pw_below_drewN (Below.refl _ _) 1)) (HW4.out.drewN 1)).mono ?_
      rintro e w5 ⟨v5, rfl, hU5, hW5, hk5, hr5⟩
      have hab5 := hk5 _ _ _ _ (drewN_keeps HAB.out 1) nsAns
      have hans5 := hk5 _ _ _ _ (drewN_keeps HANS.out 1) nsAns
      replace hr5 : ∀ (v : Value) (n : Nat) (xs : List Value), _ := fun v n xs h => hr5 v n xs (pw_own_below h (pw_below_drewN (Below.refl _ _) 1))
      clear a0 a1 a2 a3 a4 a5
      obtain ⟨⟨a0, a1, a2, a3, a4, a5⟩, _⟩ := cells6 hab5
      obtain ⟨⟨b0, b1, b2, b3, b4, b5⟩, q0, q1, q2, q3, q4, q5⟩ := cells6 hans5
      have hct : CutT w w5 B p m1 hb1 m2 hb2 ob dv1 dv2 (doF s1 (⟨16, ⟨#[]⟩, ⟨#[]⟩, 0, 0, 0, none, 0, 0, D.1.data.length, 1, 0⟩, [])).2 D.2 (.slice AA D.1.data.length ac) D.1.data (sb + 1) := ⟨hU5, hW5, hr5 _ _ _ HROW.out, Typed.of hans5, by rw [HSB.out]; exact Nat.le_succ _⟩
      have HCT := Lib.hid hct
      clear hct hU5 hW5 hk5 hr5 hab5 hans5 z0 z1 z2 z3 z4 z5 z6 z7 z8 z9 p0
      go_wp2_with fail
      refine bodyPost_ret (v := ansVal D.1.e D.1.n D.1.off (.slice AA D.1.data.length ac)) (by simp [results, Tryd.results29, go_sem, ansVal, b0, b1, b2, b3, b4, b5]) rfl ?_
      rw [HD.out h12]
      refine CutT.post (a := D.1) (ab := sb + 1) ?_
      have hC := HCT.out
      repeat (first | with_reducible exact hC | with_reducible refine CutT.set ?_ _ _ | with_reducible refine CutT.drew ?_)
    · have e12 : (op == 12) = false := beq_eq_false_iff_ne.2 h12
      by_cases h0 : D.1.e = 0
      · have e0 : (D.1.e == 0) = true := by simp [h0]
        go_upto_region 7 with fail
        refine still_tail' 7 (by kernel_rfl) (by kernel_rfl) ?_
        simp only [List.take_succ_cons, List.take_zero, List.drop_succ_cons, List.drop_zero]
        repeat still_step
        refine wpStill_nil ?_
        go_wp2_with fail
        refine (HBA.out _ (HU4.out.below (pw_below_drewN (Below.refl _ _) 1)) (HW4.out.drewN 1)).mono ?_
        rintro e w5 ⟨v5, rfl, hU5, hW5, hk5, hr5⟩
        have hab5 := hk5 _ _ _ _ (drewN_keeps HAB.out 1) nsAns
        have hans5 := hk5 _ _ _ _ (drewN_keeps HANS.out 1) nsAns
        replace hr5 : ∀ (v : Value) (n : Nat) (xs : List Value), _ := fun v n xs h => hr5 v n xs (pw_own_below h (pw_below_drewN (Below.refl _ _) 1))
        clear a0 a1 a2 a3 a4 a5
        obtain ⟨⟨a0, a1, a2, a3, a4, a5⟩, _⟩ := cells6 hab5
        obtain ⟨⟨b0, b1, b2, b3, b4, b5⟩, q0, q1, q2, q3, q4, q5⟩ := cells6 hans5
        have hct : CutT w w5 B p m1 hb1 m2 hb2 ob dv1 dv2 (doF s1 (⟨op, name, other, flag, perm, 0, da, dl, dc, off, wh, n⟩, b)).2 D.2 (.slice AA D.1.data.length ac) D.1.data (sb + 1) := ⟨hU5, hW5, hr5 _ _ _ HROW.out, Typed.of hans5, by rw [HSB.out]; exact Nat.le_succ _⟩
        have HCT := Lib.hid hct
        clear hct hU5 hW5 hk5 hr5 hab5 hans5 z0 z1 z2 z3 z4 z5 z6 z7 z8 z9 p0
        go_wp2_with fail
        refine bodyPost_ret (v := ansVal D.1.e D.1.n D.1.off (.slice AA D.1.data.length ac)) (by simp [results, Tryd.results29, go_sem, ansVal, b0, b1, b2, b3, b4, b5, h0]) rfl ?_
        rw [HD0.out h12 h0]
        refine CutT.post (a := D.1) (ab := sb + 1) ?_
        have hC := HCT.out
        repeat (first | with_reducible exact hC | with_reducible refine CutT.set ?_ _ _ | with_reducible refine CutT.drew ?_)
      · have e0 : (D.1.e == 0) = false := beq_eq_false_iff_ne.2 h0
        have hans5 := HANS.out
        obtain ⟨⟨b0, b1, b2, b3, b4, b5⟩, q0, q1, q2, q3, q4, q5⟩ := cells6 hans5
        have hct : CutT w _ B p m1 hb1 m2 hb2 ob dv1 dv2 s1 D.2 (.slice AA D.1.data.length ac) D.1.data (sb + 1) := ⟨HU4.out, HW4.out, HROW.out, Typed.of hans5, by rw [HSB.out]; exact Nat.le_succ _⟩
        have HCT := Lib.hid hct
        clear hct hans5
        go_wp2_with fail
        refine bodyPost_ret (v := ansVal D.1.e D.1.n D.1.off (.slice AA D.1.data.length ac)) (by simp [results, Tryd.results29, go_sem, ansVal, b0, b1, b2, b3, b4, b5]) rfl ?_
        rw [HD1.out h12 h0]
        refine CutT.post (a := D.1) (ab := sb + 1) ?_
        have hC := HCT.out
        repeat (first | with_reducible exact hC | with_reducible refine CutT.set ?_ _ _ | with_reducible refine CutT.drew ?_)
end Sb
end Go.Proofs.YtnkhfdnahnphdaaDoor
end
