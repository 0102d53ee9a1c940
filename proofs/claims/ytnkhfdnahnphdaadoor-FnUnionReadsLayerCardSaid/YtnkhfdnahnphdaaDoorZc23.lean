/- Parts of the proof, merged: Sx. -/
import Derived.Test.YtnkhfdnahnphdaaDoorZc10
import Derived.Test.YtnkhfdnahnphdaaDoorZc21
import Derived.Test.YtnkhfdnahnphdaaDoorZc22
section
namespace Go.Proofs.YtnkhfdnahnphdaaDoor
open Go.ChangeShapes Go.WideShapes Go.ChangeAt Go.RowKit Go.Rd Go.Maps
open Go.Proofs.YtnkhfdnahnphdaaDoorW.PrintWords Go.Proofs.YtnkhfdnahnphdaaDoorW.PrintLast Go.Proofs.YtnkhfdnahnphdaaDoorW.PrintMore
set_option linter.unusedVariables false
set_option linter.unusedSimpArgs false
set_option linter.unusedSectionVars false
namespace Sb
/-- An append onto a row of answers leaves a file system as it is. -/
theorem um_grown {w w' : World} {B m hb : Nat} {dv : Value} {s : St} {t : Int} {row : Option Nat} (h : UM w B m hb dv s t) (hg : w.grownBy w' row) (hr : ∀ k, row = some k → Typed w k tAns) : UM w' B m hb dv s t := by
  obtain ⟨⟨nv, av, mb, nm, F, names, ats, hM, hP, hF, hN, hA, hl, hl2⟩, hh, hn⟩ := h
  have hne : ∀ {k : Nat} {c : Array Value} {ty : TypeId} {fr : Nat × Nat}, ty ≠ tAns → w.heap[k]? = some (.cells c ty fr) → w'.heap[k]? = w.heap[k]? := fun hty hc => hg.block _ (lt_of_heap hc) (fun e => by
    obtain ⟨c', fr', hc'⟩ := hr _ e.symm
    exact blk_ne hc hc' hty rfl)
  have hrow : ∀ {v : Value} {n : Nat} {size : Nat} {xs : List Value} {ty : TypeId}, ty ≠ tAns → w.ownsRow B ty size v n xs → w'.ownsRow B ty size v n xs := fun hty ho => own_move ho (fun k hk => by
    obtain ⟨c, hc⟩ := own_typed ho k hk
    exact hne hty hc)
  obtain ⟨inner, ho, hri⟩ := hn
  refine ⟨⟨nv, av, mb, nm, F, names, ats, (hne (by decide) hM).trans hM, ?_, hF, hrow (by decide) hN, hrow (by decide) hA, hl, hl2⟩, (hne (by decide) hh).trans hh, ⟨inner, hrow (by decide) ho, hri.imp_ (fun p c h => ?_)⟩⟩
  · refine hP.same (hg.block _ hP.lt (fun e => ?_))
    obtain ⟨c', fr', hc'⟩ := hr _ e.symm
    exact hP.ne_cells hc' rfl
  · obtain ⟨u, h1, h2, h3⟩ := h
    exact ⟨u, h1, hrow (by decide) h2, h3⟩
theorem up_grown {w w' : World} {B p m1 hb1 m2 hb2 ob : Nat} {dv1 dv2 : Value} {s1 s2 : St} {row : Option Nat} (h : UP w B p m1 hb1 m2 hb2 ob dv1 dv2 s1 s2) (hg : w.grownBy w' row) (hr : ∀ k, row = some k → Typed w k tAns) : UP w' B p m1 hb1 m2 hb2 ob dv1 dv2 s1 s2 := by
  obtain ⟨⟨hb, es, clk, ho, hrn⟩, ⟨t1, h1⟩, ⟨t2, h2⟩, hne, hap⟩ := h
  refine ⟨⟨(hg.block _ (lt_of_heap hb) (fun e => ?_)).trans hb, es, clk, (hg.block _ (lt_of_heap ho) (fun e => ?_)).trans ho, hrn⟩, ⟨t1, um_grown h1 hg hr⟩, ⟨t2, um_grown h2 hg hr⟩, hne, hap⟩
  · obtain ⟨c', fr', hc'⟩ := hr _ e.symm
    exact blk_ne hb hc' (by decide) rfl
  · obtain ⟨c', fr', hc'⟩ := hr _ e.symm
    rw [ho] at hc'
    cases hc'
def litInt : DataW Unit → Int
  | .lit (.int _ a) => a
  | _ => 0
theorem zeroI (w : World) : (zeroValue 3).run Tryd.prog w = .ok (.int .i64 0) w := by kernel_rfl
/-- The map that says that number 0 is open in both, made. -/
theorem of_made (w : World) : ∃ w', (Instr.mapUpdate 69 (.map (some w.heap.size)) (.int .i64 0) (.int .i64 3)).run Tryd.prog (w.alloc (.map #[] 0)) = .ok () w' ∧ OfIs w' w.heap.size ∧ (w.alloc (.map #[] 0)).grownBy w' (some w.heap.size) := by
  have h0 := World.ownsMap_made (H := Unit) w Tryd.prog 3 (plainElem Tryd.prog 3)
  obtain ⟨w', hr, ho, hg⟩ := h0.update (t := 69) (e := 3) lawI Tryd.underlying69 (by decide) (keyOf_int_mk Tryd.underlying3 (show (Lit.int .i64 0).wf = true by decide)) (plainElem_int Tryd.underlying3 (show (Lit.int .i64 3).wf = true by decide))
  refine ⟨w', hr, ?_, hg⟩
  obtain ⟨es, clk, hb, hF⟩ := ho
  refine ⟨es, clk, hb, fun W hW => ?_⟩
  have hoW : W.ownsMap Tryd.prog 3 (plainElem Tryd.prog 3) w.heap.size (0 + 1) ((DataW.map ([] : List (Lit × DataW Unit))).put (.int .i64 0) (.lit (.int .i64 3))) := ⟨es, clk, hW, hF⟩
  obtain ⟨c, hl, hc, _⟩ := hoW.lookup_int (t := 69) lawI Tryd.underlying69 Tryd.underlying3 (zeroI W) (keyOf_int_mk Tryd.underlying3 (show (Lit.int .i64 0).wf = true by decide))
  have e1 := atKey_put_same (D := DataW.map ([] : List (Lit × DataW Unit))) (k := .int .i64 0) ⟨[], rfl⟩ trivial (.lit (.int .i64 3)) (.lit (.int .i64 0))
  have e2 : litInt (.lit (.int .i64 3)) = litInt (.lit (.int .i64 c)) := congrArg litInt (e1.symm.trans hc)
  have e3 : c = 3 := e2.symm
  rw [e3] at hl
  exact hl
theorem onh_yes (x : Stp) (w : World) (h : 12 ≤ x.op ∧ x.op ≤ 23) : Calls Tryd.prog 27 #[x.val] w fun e w' => e = .returned (.bool true) ∧ Below w.heap.size w w' := by
  obtain ⟨op, name, other, flag, perm, hh, da, dl, dc, off, wh, nn⟩ := x
  simp only at h
  unfold Stp.val
  simp only
  have h1 : decide ((12 : Int) ≤ op) = true := decide_eq_true h.1
  have h2 : decide (op ≤ (23 : Int)) = true := decide_eq_true h.2
  go_enter Tryd.func27, Tryd.ntmps27
  go_wp2
  go_ret
  exact ⟨rfl, (Below.refl _ _).alloc (Nat.le_refl _) _⟩
theorem onh_no (x : Stp) (w : World) (h : ¬ (12 ≤ x.op ∧ x.op ≤ 23)) : Calls Tryd.prog 27 #[x.val] w fun e w' => e = .returned (.bool false) ∧ Below w.heap.size w w' := by
  obtain ⟨op, name, other, flag, perm, hh, da, dl, dc, off, wh, nn⟩ := x
  simp only at h
  unfold Stp.val
  simp only
  by_cases h0 : (12 : Int) ≤ op
  · have h1 : decide ((12 : Int) ≤ op) = true := decide_eq_true h0
    have h2 : decide (op ≤ (23 : Int)) = false := decide_eq_false (fun h2 => h ⟨h0, h2⟩)
    go_enter Tryd.func27, Tryd.ntmps27
    go_wp2
    go_ret
    exact ⟨rfl, (Below.refl _ _).alloc (Nat.le_refl _) _⟩
  · have h1 : decide ((12 : Int) ≤ op) = false := decide_eq_false h0
    go_enter Tryd.func27, Tryd.ntmps27
    go_wp2
    go_ret
    exact ⟨rfl, (Below.refl _ _).alloc (Nat.le_refl _) _⟩
/-- The cells of the pair's block and of the step's. -/
theorem rc_cells {W : World} {p sb m1 m2 ob : Nat} {op flag perm off wh n : Int} {name other : ByteArray} {da : Option Addr} {dl dc : Nat} {fr : Nat × Nat} (hp : W.heap[p]? = some (.cells #[.pointer (some ⟨m1, 0, none⟩), .pointer (some ⟨m2, 0, none⟩), .map (some ob)] tPair (0, 0))) (hs : W.heap[sb]? = some (.cells #[.int .i64 op, .string name, .string other, .int .i64 flag, .int .i64 perm, .int .i64 0, .slice da dl dc, .int .i64 off, .int .i64 wh, .int .i64 n] tStep fr)) :
    W.cell? ⟨p, 0, none⟩ = some (.pointer (some ⟨m1, 0, none⟩)) ∧ W.cell? ⟨p, 1, none⟩ = some (.pointer (some ⟨m2, 0, none⟩)) ∧ W.cell? ⟨sb, 0, none⟩ = some (.int .i64 op) ∧ W.cell? ⟨sb, 1, none⟩ = some (.string name) ∧ W.cell? ⟨sb, 2, none⟩ = some (.string other) ∧ W.cell? ⟨sb, 3, none⟩ = some (.int .i64 flag) ∧ W.cell? ⟨sb, 4, none⟩ = some (.int .i64 perm) ∧ W.cell? ⟨sb, 5, none⟩ = some (.int .i64 0) ∧ W.cell? ⟨sb, 6, none⟩ = some (.slice da dl dc) ∧ W.cell? ⟨sb, 7, none⟩ = some (.int .i64 off) ∧ W.cell? ⟨sb, 8, none⟩ = some (.int .i64 wh) ∧ W.cell? ⟨sb, 9, none⟩ = some (.int .i64 n) :=
  ⟨(cell_of hp 0).trans rfl, (cell_of hp 1).trans rfl, (cell_of hs 0).trans rfl, (cell_of hs 1).trans rfl, (cell_of hs 2).trans rfl, (cell_of hs 3).trans rfl, (cell_of hs 4).trans rfl, (cell_of hs 5).trans rfl, (cell_of hs 6).trans rfl, (cell_of hs 7).trans rfl, (cell_of hs 8).trans rfl, (cell_of hs 9).trans rfl⟩
theorem up_start {w w1 w2 w3 : World} {m1 h1 m2 h2 : Nat} {dv1 dv2 : Value} {s1 s2 : St} {t1 t2 : Int} (hU1 : UM w1 w.heap.size m1 h1 dv1 s1 t1) (hh1 : w.heap.size ≤ h1) (hB1 : Below w.heap.size w w1) (hU2 : UM w2 w1.heap.size m2 h2 dv2 s2 t2) (hh2 : w1.heap.size ≤ h2) (hB2 : Below w1.heap.size w1 w2) (hof : OfIs w3 w2.heap.size) (hB3 : Below w2.heap.size w2 w3) :
    UP ((w3.alloc (.cells #[.pointer (some ⟨m1, 0, none⟩), .pointer (some ⟨m2, 0, none⟩), .map (some w2.heap.size)] tPair)).alloc (.cells #[] tAns)) w.heap.size w3.heap.size m1 h1 m2 h2 w2.heap.size dv1 dv2 s1 s2 := by
  have hBz : Below w3.heap.size w3 ((w3.alloc (.cells #[.pointer (some ⟨m1, 0, none⟩), .pointer (some ⟨m2, 0, none⟩), .map (some w2.heap.size)] tPair)).alloc (.cells #[] tAns)) := ((Below.refl _ _).alloc (Nat.le_refl _) _).alloc (by simp) _
  have h12 := hU1.below hB2
  refine ⟨⟨alloc_keeps (alloc_new w3 _) _, ?_⟩, ⟨t1, (h12.below hB3).below hBz⟩, ⟨t2, um_less ((hU2.below hB3).below hBz) hB1.size⟩, ?_, fun k hk e => ?_⟩
  · obtain ⟨es, clk, ho, hr⟩ := hof
    exact ⟨es, clk, (hBz.block _ (lt_of_heap ho)).trans ho, hr⟩
  · have := lt_of_heap hU1.hand
    omega
  · obtain ⟨i1, ho1, _⟩ := hU1.nodes
    obtain ⟨i2, ho2, _⟩ := hU2.nodes
    have := own_lt ho1 k hk
    have := own_base ho2 k e
    omega
theorem bytes_old {w W W' : World} {S : Nat → Prop} {A : Option Addr} {n c : Nat} {l : List Int} (h0 : BytesIn w A n c l) (h : BytesIn W A n c l) (hw : Wrote S W W') (hS : ∀ k, S k → w.heap.size ≤ k) : BytesIn W' A n c l :=
  ⟨h.len, h.nil, h.le, h.max, fun y hy j u hu => by
    have hc := h.cells y hy j u hu
    have hl := cell_lt (h0.cells y hy j u hu)
    exact (World.cell?_of_block (hw.block _ (cell_lt hc) (fun e => by have := hS _ e; omega))).trans hc, h.fits⟩
theorem row_below {W W' : World} {B : Nat} {v : Value} {l : List Unit} (h : OwnRow (fun (_ : Unit) _ => True) tAns 6 W B v l) (hb : Below W.heap.size W W') : OwnRow (fun (_ : Unit) _ => True) tAns 6 W' B v l := h.below hb
theorem row_both {W W' : World} {B B' p m1 hb1 m2 hb2 ob : Nat} {dv1 dv2 : Value} {s1 s2 : St} {v : Value} {l : List Unit} (h : OwnRow (fun (_ : Unit) _ => True) tAns 6 W B v l) (hU : UP W B' p m1 hb1 m2 hb2 ob dv1 dv2 s1 s2) (hw : Wrote (Both hb1 hb2 dv1 dv2) W W') : OwnRow (fun (_ : Unit) _ => True) tAns 6 W' B v l := by
  obtain ⟨inner, ho, hr⟩ := h
  refine ⟨inner, own_move ho (fun k hk => hw.block k (own_lt ho k hk) (fun hs => ?_)), hr⟩
  obtain ⟨c, hc⟩ := own_typed ho k hk
  rcases (both_soft hU).1 k c _ _ hs hc with e | e <;> exact absurd e (by decide)
theorem row_typed {W : World} {B : Nat} {v : Value} {l : List Unit} (h : OwnRow (fun (_ : Unit) _ => True) tAns 6 W B v l) (j : Nat) (hj : v.ownBlock = some j) : Typed W j tAns := by
  obtain ⟨inner, ho, _⟩ := h
  obtain ⟨c, hc⟩ := own_typed ho j hj
  exact Typed.of hc
theorem spk_h {s : St} {op flag perm hh h' off wh n : Int} {name other : ByteArray} {da : Option Addr} {dl dc : Nat} {bb : List Int} (h : SpkP s (⟨op, name, other, flag, perm, h', da, dl, dc, off, wh, n⟩, bb)) : SpkP s (⟨op, name, other, flag, perm, hh, da, dl, dc, off, wh, n⟩, bb) := ⟨h.dl, h.fits, h.read, h.write, h.writeAt, h.trunc, h.seek⟩
theorem step_h {p : St × St} {op flag perm hh h' off wh n : Int} {name other : ByteArray} {da : Option Addr} {dl dc : Nat} {bb : List Int} : stP p (⟨op, name, other, flag, perm, hh, da, dl, dc, off, wh, n⟩, bb) = stP p (⟨op, name, other, flag, perm, h', da, dl, dc, off, wh, n⟩, bb) := rfl
theorem op_h {op flag perm hh h' off wh n : Int} {name other : ByteArray} {da : Option Addr} {dl dc : Nat} {bb : List Int} (h : OpU (⟨op, name, other, flag, perm, h', da, dl, dc, off, wh, n⟩, bb)) : OpU (⟨op, name, other, flag, perm, hh, da, dl, dc, off, wh, n⟩, bb) := h
/-- What is handed back: whether all was spoken of. -/
def RunPost (w : World) (p0 : St × St) (L : List Sx) (e : Ending) (w' : World) : Prop := ∃ A1 n1 c1 A2 n2 c2 A3 n3 c3 r, e = .returned (.tuple #[.slice A1 n1 c1, .slice A2 n2 c2, .slice A3 n3 c3, .bool r]) ∧ (r = true → SpkAll p0 L) ∧ Below w.heap.size w w'
theorem run_refused {w W : World} {p0 : St × St} {L : List Sx} (h : Below w.heap.size w W) : RunPost w p0 L (.returned (.tuple #[.slice none 0 0, .slice none 0 0, .slice none 0 0, .bool false])) W := ⟨_, _, _, _, _, _, _, _, _, _, rfl, (fun h => by cases h), h⟩
/-- The frame's state in a round. -/
def RunU (w : World) (p m1 h1 m2 h2 ob : Nat) (dv1 dv2 : Value) (p0 : St × St) (L : List Sx) (v : Value) (k : Nat) (wr : World) : Prop :=
  UP wr w.heap.size p m1 h1 m2 h2 ob dv1 dv2 (runP p0 (L.take k)).2 (runP p0 (L.take k)).1 ∧ SpkAll p0 (L.take k) ∧ OwnRow (fun (_ : Unit) _ => True) tAns 6 wr w.heap.size v (List.replicate k ()) ∧ Below w.heap.size w wr
set_option maxRecDepth 100000 in
set_option maxHeartbeats 16000000 in
theorem union_run (dA : Option Addr) (dm dc : Nat) (lay : List Int) (eA : Option Addr) (em ec : Nat) (bas : List Int) (ro : Bool) (A : Option Addr) (c : Nat) (L : List Sx) (w : World) (hb1 : BytesIn w dA dm dc lay) (hb2 : BytesIn w eA em ec bas) (hdm : dm ≤ 4096) (hem : em ≤ 4096)
    (hS : ReadsRow (StepK w) 10 w A L.length L) (hL : L.length ≤ 1000) (hfit : Hid (FitL L)) :
    Calls Tryd.prog 16 #[.slice dA dm dc, .slice eA em ec, .bool ro, .slice A L.length c] w (RunPost w (⟨0, false, ro, lay⟩, ⟨0, false, ro, bas⟩) L) := by
  have hmm := @run_makeMap Tryd.prog
  go_enter Tryd.func16, Tryd.ntmps16
  go_wp2_with (first
    | (go_at_call 26; refine (one_open dA dm dc lay ro w1 (hb1.below hB1) (by omega)).mono ?_; rintro e w2 ⟨m2, h2, dv2, rfl, hU2, hh2, hB2⟩; obtain ⟨w3, hr3, hof3, hg3⟩ := of_made w2)
    | (go_at_call 26; refine (one_open eA em ec bas ro w hb2 (by omega)).mono ?_; rintro e w1 ⟨m1, h1, dv1, rfl, hU1, hh1, hB1⟩))
  -- begun
  have hB3 : Below w2.heap.size w2 w3 := by
    have h0 : Below w2.heap.size w2 (w2.alloc (.map #[] 0)) := (Below.refl _ _).alloc (Nat.le_refl _) _
    exact ⟨hg3.os.trans h0.os, hg3.tape.trans h0.tape, hg3.output.trans h0.output, Nat.le_trans h0.size hg3.size, fun k hk => (hg3.block k (Nat.lt_of_lt_of_le hk h0.size) (fun e => by injection e with e; omega)).trans (h0.block k hk)⟩
  have hU0 := up_start hU1 hh1 hB1 hU2 hh2 hB2 hof3 hB3
  have hBz : Below w.heap.size w ((w3.alloc (.cells #[.pointer (some ⟨m1, 0, none⟩), .pointer (some ⟨m2, 0, none⟩), .map (some w2.heap.size)] tPair)).alloc (.cells #[] tAns)) := by
    have h2' := hB1.trans (hB2.mono hB1.size)
    have h3' := h2'.trans (hB3.mono h2'.size)
    have h4' := h3'.alloc h3'.size (.cells #[.pointer (some ⟨m1, 0, none⟩), .pointer (some ⟨m2, 0, none⟩), .map (some w2.heap.size)] tPair)
    exact h4'.alloc h4'.size _
  have hrow0 : OwnRow (fun (_ : Unit) _ => True) tAns 6 ((w3.alloc (.cells #[.pointer (some ⟨m1, 0, none⟩), .pointer (some ⟨m2, 0, none⟩), .map (some w2.heap.size)] tPair)).alloc (.cells #[] tAns)) w.heap.size (.slice (some ⟨w3.heap.size + 1, 0, none⟩) 0 0) [] := by
    have hs : w.heap.size ≤ (w3.alloc (.cells #[.pointer (some ⟨m1, 0, none⟩), .pointer (some ⟨m2, 0, none⟩), .map (some w2.heap.size)] tPair)).heap.size := by
      have := hB1.size; have := hB2.size; have := hB3.size
      simp
      omega
    have := World.ownsRow_lit (base := w.heap.size) (e := tAns) (size := 6) (w3.alloc (.cells #[.pointer (some ⟨m1, 0, none⟩), .pointer (some ⟨m2, 0, none⟩), .map (some w2.heap.size)] tPair)) #[] 0 hs (by decide) rfl
    exact ⟨[], by simpa using this, Reps.none _ _⟩
  have hlow : ∀ j, Both h1 h2 dv1 dv2 j → w.heap.size ≤ j := by
    rintro j ((e | e) | (e | e))
    · omega
    · obtain ⟨inner, ho, _⟩ := hU1.nodes
      exact own_base ho j e
    · have := hB1.size; omega
    · obtain ⟨inner, ho, _⟩ := hU2.nodes
      have := own_base ho j e
      have := hB1.size
      omega
  generalize w2.heap.size = ob at *
  obtain ⟨p, hp⟩ : ∃ p, w3.heap.size = p := ⟨_, rfl⟩
  rw [hp] at hU0 hrow0 ⊢
  have HU := Lib.hid hU0
  have HBZ := Lib.hid hBz
  have HROW := Lib.hid hrow0
  have HLOW := Lib.hid hlow
  have hg1 : Good 0 (⟨0, false, ro, lay⟩ : St) := ⟨by have := hb1.len; simp only; omega, by simp, by simp, hb1.fits⟩
  have hg2 : Good 0 (⟨0, false, ro, bas⟩ : St) := ⟨by have := hb2.len; simp only; omega, by simp, by simp, hb2.fits⟩
  have HG1 := Lib.hid hg1
  have HG2 := Lib.hid hg2
  clear hU0 hBz hrow0 hlow hU1 hU2 hof3 hB3 hg3 hr3 hB1 hB2 hp hh1 hh2 hmm hg1 hg2
  go_loopw [13, 29] (fun v i wr => ∃ k : Nat, k ≤ L.length ∧ i = .int .i64 k ∧ RunU w p m1 h1 m2 h2 ob dv1 dv2 (⟨0, false, ro, lay⟩, ⟨0, false, ro, bas⟩) L v k wr) (fun _ i _ => L.length - (intOf i).toNat)
  case atStart => exact ⟨0, Nat.zero_le _, rfl, HU.out, trivial, HROW.out, HBZ.out⟩
  case round =>
    obtain ⟨k, hk, rfl, hU, hspk, hO13, hB⟩ := hrel
    by_cases hlt : k < L.length
    · obtain ⟨b, off0, eA, hbl, hbk, x0, x1, x2, x3, x4, x5, x6, x7, x8, x9⟩ := steps_at hS k hlt
      subst eA
      have hBC : ∀ j v, w.cell? ⟨b, j, none⟩ = some v → wr.cell? ⟨b, j, none⟩ = some v := fun j v h => (hB.cell (p := ⟨b, j, none⟩) hbl).trans h
      have y0 := hBC _ _ x0
      have y1 := hBC _ _ x1
      have y2 := hBC _ _ x2
      have y3 := hBC _ _ x3
      have y4 := hBC _ _ x4
      have y5 := hBC _ _ x5
      have y6 := hBC _ _ x6
      have y7 := hBC _ _ x7
      have y8 := hBC _ _ x8
      have y9 := hBC _ _ x9
      clear hBC x0 x1 x2 x3 x4 x5 x6 x7 x8 x9
      have hg0 := good_at (p := (⟨0, false, ro, lay⟩, ⟨0, false, ro, bas⟩)) (L := L.take k) hspk (fun x hx => hfit.out x (List.mem_of_mem_take hx)) HG1.out HG2.out k (by simp; omega)
      rw [List.take_take, Nat.min_self] at hg0
      have HG := Lib.hid hg0
      have HFX := Lib.hid (hfit.out _ (List.getElem_mem hlt))
      have HSPK := Lib.hid hspk
      have HU0' := Lib.hid hU
      have HO13 := Lib.hid hO13
      have HBK := Lib.hid hbk
      have HER := Lib.hid (runP_take (⟨0, false, ro, lay⟩, ⟨0, false, ro, bas⟩) L k hlt)
      have HTK := Lib.hid (List.take_succ_eq_append_getElem hlt)
      clear hspk hU hO13 hbk hg0
      generalize L[k] = xk at *
      obtain ⟨⟨op, name, other, flag, perm, hh, da, dl, dc, off, wh, n⟩, bb⟩ := xk
      simp only at y0 y1 y2 y3 y4 y5 y6 y7 y8 y9
      go_upto_region 7 with fail
      refine world_as (fun W => Below wr.heap.size wr W ∧ W.heap[wr.heap.size]? = some (.cells #[.int .i64 op, .string name, .string other, .int .i64 flag, .int .i64 perm, .int .i64 0, .slice da dl dc, .int .i64 off, .int .i64 wh, .int .i64 n] tStep (0, 0))) ⟨(Below.refl _ _).alloc (Nat.le_refl _) _, alloc_new _ _⟩ (fun W0 hW => ?_)
      obtain ⟨hBw0, hs0⟩ := hW
      have HU0 := Lib.hid (HU0'.out.below hBw0)
      have hp0 := HU0.out.pair.blk
      have hB0 : Below w.heap.size w W0 := hB.trans (hBw0.mono hB.size)
      obtain ⟨sb, hsb⟩ : ∃ sb, wr.heap.size = sb := ⟨_, rfl⟩
      rw [hsb] at hs0 ⊢
      have HSB := Lib.hid hsb
      have HBW0 := Lib.hid hBw0
      clear hsb y0 y1 y2 y3 y4 y5 y6 y7 y8 y9 hBw0
      go_upto_region 7 with fail
      · skip
        by_cases hon : 12 ≤ op ∧ op ≤ 23
        rotate_left
        · have hBe0 := hB0
          refine wp_region_held_drew (S := fun W => W.cell? ⟨p, 0, none⟩ = some (.pointer (some ⟨m1, 0, none⟩)) ∧ W.cell? ⟨p, 1, none⟩ = some (.pointer (some ⟨m2, 0, none⟩)) ∧ W.cell? ⟨sb, 0, none⟩ = some (.int .i64 op) ∧ W.cell? ⟨sb, 1, none⟩ = some (.string name) ∧ W.cell? ⟨sb, 2, none⟩ = some (.string other) ∧ W.cell? ⟨sb, 3, none⟩ = some (.int .i64 flag) ∧ W.cell? ⟨sb, 4, none⟩ = some (.int .i64 perm) ∧ W.cell? ⟨sb, 5, none⟩ = some (.int .i64 0) ∧ W.cell? ⟨sb, 6, none⟩ = some (.slice da dl dc) ∧ W.cell? ⟨sb, 7, none⟩ = some (.int .i64 off) ∧ W.cell? ⟨sb, 8, none⟩ = some (.int .i64 wh) ∧ W.cell? ⟨sb, 9, none⟩ = some (.int .i64 n)) (by kernel_rfl) (rc_cells hp0 hs0) (fun hHeld => ?_)
          refine wpAnyH_take (i := 0) (v := ?_) rfl (by kernel_rfl) (by kernel_rfl) (by kernel_rfl) (fun _ _ _ h => h) (Or.inl ⟨by rfl, ?_⟩) (by assumption) ?_
          rotate_left
          · (intro w hSw; (try dsimp only at hSw); go_split_ands; go_simp) <;> with_reducible rfl
          (try simp only [Act.put, List.setIfInBounds_toArray, List.set_cons_zero, List.set_cons_succ, List.getElem_toArray, List.getElem_cons_succ, List.getElem_cons_zero])
          refine wpAnyH_ready (rs := [1]) (by kernel_rfl) (by simp) ?_
          refine AllReadyH.cons rfl (fun K hK => ?_) AllReadyH.nil
          go_simp; go_at_call 27; refine (onh_no ⟨op, name, other, flag, perm, 0, da, dl, dc, off, wh, n⟩ _ (by assumption)).mono ?_; rintro e X1 ⟨rfl, hb1'⟩; have hp1 := (hb1'.block _ (lt_of_heap hp0)).trans hp0; have hs1 := (hb1'.block _ (lt_of_heap hs0)).trans hs0; have hBa := hB0.trans (Below.mono (w := W0) (w' := X1) ⟨hb1'.os, hb1'.tape, hb1'.output, hb1'.size, hb1'.block⟩ hB0.size)
          refine hK.out _ _ (rc_cells hp1 hs1) (fun hHeld => ?_)
          clear hK K
          (try simp only [Act.put, List.setIfInBounds_toArray, List.set_cons_zero, List.set_cons_succ, List.getElem_toArray, List.getElem_cons_succ, List.getElem_cons_zero])
          have hBe : Below w.heap.size w X1 := hBa
          refine wpAnyH_take (i := 2) (v := ?_) rfl (by kernel_rfl) (by kernel_rfl) (by kernel_rfl) (fun _ _ _ h => h) (Or.inl ⟨by rfl, ?_⟩) (by assumption) ?_
          rotate_left
          · (intro w hSw; clear hSw; go_simp) <;> with_reducible rfl
          (try simp only [Act.put, List.setIfInBounds_toArray, List.set_cons_zero, List.set_cons_succ, List.getElem_toArray, List.getElem_cons_succ, List.getElem_cons_zero])
          refine wpAnyH_take (i := 3) (v := ?_) rfl (by kernel_rfl) (by kernel_rfl) (by kernel_rfl) (fun _ _ _ h => h) (Or.inl ⟨by rfl, ?_⟩) (by assumption) ?_
          rotate_left
          · (intro w hSw; clear hSw; go_simp) <;> with_reducible rfl
          (try simp only [Act.put, List.setIfInBounds_toArray, List.set_cons_zero, List.set_cons_succ, List.getElem_toArray, List.getElem_cons_succ, List.getElem_cons_zero])
          refine wpAnyH_take (i := 4) (v := undef) rfl (by kernel_rfl) (by kernel_rfl) (by kernel_rfl) (fun _ _ _ h => h) (Or.inr ⟨by rfl, rfl⟩) (by assumption) ?_
          (try simp only [Act.put, List.setIfInBounds_toArray, List.set_cons_zero, List.set_cons_succ, List.getElem_toArray, List.getElem_cons_succ, List.getElem_cons_zero])
          refine wpAnyH_take (i := 5) (v := undef) rfl (by kernel_rfl) (by kernel_rfl) (by kernel_rfl) (fun _ _ _ h => h) (Or.inr ⟨by rfl, rfl⟩) (by assumption) ?_
          (try simp only [Act.put, List.setIfInBounds_toArray, List.set_cons_zero, List.set_cons_succ, List.getElem_toArray, List.getElem_cons_succ, List.getElem_cons_zero])
          refine wpAnyH_take (i := 6) (v := undef) rfl (by kernel_rfl) (by kernel_rfl) (by kernel_rfl) (fun _ _ _ h => h) (Or.inr ⟨by rfl, rfl⟩) (by assumption) ?_
          (try simp only [Act.put, List.setIfInBounds_toArray, List.set_cons_zero, List.set_cons_succ, List.getElem_toArray, List.getElem_cons_succ, List.getElem_cons_zero])
          refine wpAnyH_take (i := 7) (v := ?_) rfl (by kernel_rfl) (by kernel_rfl) (by kernel_rfl) (fun _ _ _ h => h) (Or.inl ⟨by rfl, ?_⟩) (by assumption) ?_
          rotate_left
          · (intro w hSw; clear hSw; go_simp) <;> with_reducible rfl
          (try simp only [Act.put, List.setIfInBounds_toArray, List.set_cons_zero, List.set_cons_succ, List.getElem_toArray, List.getElem_cons_succ, List.getElem_cons_zero])
          refine wpAnyH_take (i := 8) (v := ?_) rfl (by kernel_rfl) (by kernel_rfl) (by kernel_rfl) (fun _ _ _ h => h) (Or.inl ⟨by rfl, ?_⟩) (by assumption) ?_
          rotate_left
          · (intro w hSw; clear hSw; go_simp) <;> with_reducible rfl
          (try simp only [Act.put, List.setIfInBounds_toArray, List.set_cons_zero, List.set_cons_succ, List.getElem_toArray, List.getElem_cons_succ, List.getElem_cons_zero])
          refine wpAnyH_take (i := 9) (v := undef) rfl (by kernel_rfl) (by kernel_rfl) (by kernel_rfl) (fun _ _ _ h => h) (Or.inr ⟨by rfl, rfl⟩) (by assumption) ?_
          (try simp only [Act.put, List.setIfInBounds_toArray, List.set_cons_zero, List.set_cons_succ, List.getElem_toArray, List.getElem_cons_succ, List.getElem_cons_zero])
          refine wpAnyH_take (i := 10) (v := undef) rfl (by kernel_rfl) (by kernel_rfl) (by kernel_rfl) (fun _ _ _ h => h) (Or.inr ⟨by rfl, rfl⟩) (by assumption) ?_
          (try simp only [Act.put, List.setIfInBounds_toArray, List.set_cons_zero, List.set_cons_succ, List.getElem_toArray, List.getElem_cons_succ, List.getElem_cons_zero])
          refine wpAnyH_take (i := 11) (v := undef) rfl (by kernel_rfl) (by kernel_rfl) (by kernel_rfl) (fun _ _ _ h => h) (Or.inr ⟨by rfl, rfl⟩) (by assumption) ?_
          (try simp only [Act.put, List.setIfInBounds_toArray, List.set_cons_zero, List.set_cons_succ, List.getElem_toArray, List.getElem_cons_succ, List.getElem_cons_zero])
          refine wpAnyH_take (i := 12) (v := ?_) rfl (by kernel_rfl) (by kernel_rfl) (by kernel_rfl) (fun _ _ _ h => h) (Or.inl ⟨by rfl, ?_⟩) (by assumption) ?_
          rotate_left
          · (intro w hSw; clear hSw; go_simp) <;> with_reducible rfl
          (try simp only [Act.put, List.setIfInBounds_toArray, List.set_cons_zero, List.set_cons_succ, List.getElem_toArray, List.getElem_cons_succ, List.getElem_cons_zero])
          refine wpAnyH_take (i := 13) (v := ?_) rfl (by kernel_rfl) (by kernel_rfl) (by kernel_rfl) (fun _ _ _ h => h) (Or.inl ⟨by rfl, ?_⟩) (by assumption) ?_
          rotate_left
          · (intro w hSw; clear hSw; go_simp) <;> with_reducible rfl
          (try simp only [Act.put, List.setIfInBounds_toArray, List.set_cons_zero, List.set_cons_succ, List.getElem_toArray, List.getElem_cons_succ, List.getElem_cons_zero])
          refine wpAnyH_take (i := 14) (v := undef) rfl (by kernel_rfl) (by kernel_rfl) (by kernel_rfl) (fun _ _ _ h => h) (Or.inr ⟨by rfl, rfl⟩) (by assumption) ?_
          (try simp only [Act.put, List.setIfInBounds_toArray, List.set_cons_zero, List.set_cons_succ, List.getElem_toArray, List.getElem_cons_succ, List.getElem_cons_zero])
          refine wpAnyH_take (i := 15) (v := undef) rfl (by kernel_rfl) (by kernel_rfl) (by kernel_rfl) (fun _ _ _ h => h) (Or.inr ⟨by rfl, rfl⟩) (by assumption) ?_
          (try simp only [Act.put, List.setIfInBounds_toArray, List.set_cons_zero, List.set_cons_succ, List.getElem_toArray, List.getElem_cons_succ, List.getElem_cons_zero])
          refine wpAnyH_take (i := 16) (v := undef) rfl (by kernel_rfl) (by kernel_rfl) (by kernel_rfl) (fun _ _ _ h => h) (Or.inr ⟨by rfl, rfl⟩) (by assumption) ?_
          (try simp only [Act.put, List.setIfInBounds_toArray, List.set_cons_zero, List.set_cons_succ, List.getElem_toArray, List.getElem_cons_succ, List.getElem_cons_zero])
          refine wpAnyH_take (i := 17) (v := ?_) rfl (by kernel_rfl) (by kernel_rfl) (by kernel_rfl) (fun _ _ _ h => h) (Or.inl ⟨by rfl, ?_⟩) (by assumption) ?_
          rotate_left
          · (intro w hSw; clear hSw; go_simp) <;> with_reducible rfl
          (try simp only [Act.put, List.setIfInBounds_toArray, List.set_cons_zero, List.set_cons_succ, List.getElem_toArray, List.getElem_cons_succ, List.getElem_cons_zero])
          refine wpAnyH_take (i := 18) (v := ?_) rfl (by kernel_rfl) (by kernel_rfl) (by kernel_rfl) (fun _ _ _ h => h) (Or.inl ⟨by rfl, ?_⟩) (by assumption) ?_
          rotate_left
          · (intro w hSw; clear hSw; go_simp) <;> with_reducible rfl
          (try simp only [Act.put, List.setIfInBounds_toArray, List.set_cons_zero, List.set_cons_succ, List.getElem_toArray, List.getElem_cons_succ, List.getElem_cons_zero])
          refine wpAnyH_take (i := 19) (v := undef) rfl (by kernel_rfl) (by kernel_rfl) (by kernel_rfl) (fun _ _ _ h => h) (Or.inr ⟨by rfl, rfl⟩) (by assumption) ?_
          (try simp only [Act.put, List.setIfInBounds_toArray, List.set_cons_zero, List.set_cons_succ, List.getElem_toArray, List.getElem_cons_succ, List.getElem_cons_zero])
          refine wpAnyH_take (i := 20) (v := undef) rfl (by kernel_rfl) (by kernel_rfl) (by kernel_rfl) (fun _ _ _ h => h) (Or.inr ⟨by rfl, rfl⟩) (by assumption) ?_
          (try simp only [Act.put, List.setIfInBounds_toArray, List.set_cons_zero, List.set_cons_succ, List.getElem_toArray, List.getElem_cons_succ, List.getElem_cons_zero])
          refine wpAnyH_take (i := 21) (v := undef) rfl (by kernel_rfl) (by kernel_rfl) (by kernel_rfl) (fun _ _ _ h => h) (Or.inr ⟨by rfl, rfl⟩) (by assumption) ?_
          (try simp only [Act.put, List.setIfInBounds_toArray, List.set_cons_zero, List.set_cons_succ, List.getElem_toArray, List.getElem_cons_succ, List.getElem_cons_zero])
          refine wpAnyH_take (i := 22) (v := undef) rfl (by kernel_rfl) (by kernel_rfl) (by kernel_rfl) (fun _ _ _ h => h) (Or.inr ⟨by rfl, rfl⟩) (by assumption) ?_
          (try simp only [Act.put, List.setIfInBounds_toArray, List.set_cons_zero, List.set_cons_succ, List.getElem_toArray, List.getElem_cons_succ, List.getElem_cons_zero])
          refine wpAnyH_take (i := 23) (v := undef) rfl (by kernel_rfl) (by kernel_rfl) (by kernel_rfl) (fun _ _ _ h => h) (Or.inr ⟨by rfl, rfl⟩) (by assumption) ?_
          (try simp only [Act.put, List.setIfInBounds_toArray, List.set_cons_zero, List.set_cons_succ, List.getElem_toArray, List.getElem_cons_succ, List.getElem_cons_zero])
          refine wpAnyH_take (i := 24) (v := undef) rfl (by kernel_rfl) (by kernel_rfl) (by kernel_rfl) (fun _ _ _ h => h) (Or.inr ⟨by rfl, rfl⟩) (by assumption) ?_
          (try simp only [Act.put, List.setIfInBounds_toArray, List.set_cons_zero, List.set_cons_succ, List.getElem_toArray, List.getElem_cons_succ, List.getElem_cons_zero])
          refine wpAnyH_take (i := 25) (v := undef) rfl (by kernel_rfl) (by kernel_rfl) (by kernel_rfl) (fun _ _ _ h => h) (Or.inr ⟨by rfl, rfl⟩) (by assumption) ?_
          (try simp only [Act.put, List.setIfInBounds_toArray, List.set_cons_zero, List.set_cons_succ, List.getElem_toArray, List.getElem_cons_succ, List.getElem_cons_zero])
          refine wpAnyH_take (i := 26) (v := ?_) rfl (by kernel_rfl) (by kernel_rfl) (by kernel_rfl) (fun _ _ _ h => h) (Or.inl ⟨by rfl, ?_⟩) (by assumption) ?_
          rotate_left
          · (intro w hSw; clear hSw; go_simp) <;> with_reducible rfl
          (try simp only [Act.put, List.setIfInBounds_toArray, List.set_cons_zero, List.set_cons_succ, List.getElem_toArray, List.getElem_cons_succ, List.getElem_cons_zero])
          refine wpAnyH_take (i := 27) (v := ?_) rfl (by kernel_rfl) (by kernel_rfl) (by kernel_rfl) (fun _ _ _ h => h) (Or.inl ⟨by rfl, ?_⟩) (by assumption) ?_
          rotate_left
          · (intro w hSw; clear hSw; go_simp) <;> with_reducible rfl
          (try simp only [Act.put, List.setIfInBounds_toArray, List.set_cons_zero, List.set_cons_succ, List.getElem_toArray, List.getElem_cons_succ, List.getElem_cons_zero])
          refine wpAnyH_take (i := 28) (v := undef) rfl (by kernel_rfl) (by kernel_rfl) (by kernel_rfl) (fun _ _ _ h => h) (Or.inr ⟨by rfl, rfl⟩) (by assumption) ?_
          (try simp only [Act.put, List.setIfInBounds_toArray, List.set_cons_zero, List.set_cons_succ, List.getElem_toArray, List.getElem_cons_succ, List.getElem_cons_zero])
          refine wpAnyH_take (i := 29) (v := undef) rfl (by kernel_rfl) (by kernel_rfl) (by kernel_rfl) (fun _ _ _ h => h) (Or.inr ⟨by rfl, rfl⟩) (by assumption) ?_
          (try simp only [Act.put, List.setIfInBounds_toArray, List.set_cons_zero, List.set_cons_succ, List.getElem_toArray, List.getElem_cons_succ, List.getElem_cons_zero])
          refine wpAnyH_take (i := 30) (v := undef) rfl (by kernel_rfl) (by kernel_rfl) (by kernel_rfl) (fun _ _ _ h => h) (Or.inr ⟨by rfl, rfl⟩) (by assumption) ?_
          (try simp only [Act.put, List.setIfInBounds_toArray, List.set_cons_zero, List.set_cons_succ, List.getElem_toArray, List.getElem_cons_succ, List.getElem_cons_zero])
          refine wpAnyH_take (i := 31) (v := undef) rfl (by kernel_rfl) (by kernel_rfl) (by kernel_rfl) (fun _ _ _ h => h) (Or.inr ⟨by rfl, rfl⟩) (by assumption) ?_
          (try simp only [Act.put, List.setIfInBounds_toArray, List.set_cons_zero, List.set_cons_succ, List.getElem_toArray, List.getElem_cons_succ, List.getElem_cons_zero])
          refine wpAnyH_take (i := 32) (v := undef) rfl (by kernel_rfl) (by kernel_rfl) (by kernel_rfl) (fun _ _ _ h => h) (Or.inr ⟨by rfl, rfl⟩) (by assumption) ?_
          (try simp only [Act.put, List.setIfInBounds_toArray, List.set_cons_zero, List.set_cons_succ, List.getElem_toArray, List.getElem_cons_succ, List.getElem_cons_zero])
          refine wpAnyH_take (i := 33) (v := undef) rfl (by kernel_rfl) (by kernel_rfl) (by kernel_rfl) (fun _ _ _ h => h) (Or.inr ⟨by rfl, rfl⟩) (by assumption) ?_
          (try simp only [Act.put, List.setIfInBounds_toArray, List.set_cons_zero, List.set_cons_succ, List.getElem_toArray, List.getElem_cons_succ, List.getElem_cons_zero])
          refine wpAnyH_take (i := 34) (v := undef) rfl (by kernel_rfl) (by kernel_rfl) (by kernel_rfl) (fun _ _ _ h => h) (Or.inr ⟨by rfl, rfl⟩) (by assumption) ?_
          (try simp only [Act.put, List.setIfInBounds_toArray, List.set_cons_zero, List.set_cons_succ, List.getElem_toArray, List.getElem_cons_succ, List.getElem_cons_zero])
          refine wpAnyH_take (i := 35) (v := ?_) rfl (by kernel_rfl) (by kernel_rfl) (by kernel_rfl) (fun _ _ _ h => h) (Or.inl ⟨by rfl, ?_⟩) (by assumption) ?_
          rotate_left
          · (intro w hSw; clear hSw; go_simp) <;> with_reducible rfl
          (try simp only [Act.put, List.setIfInBounds_toArray, List.set_cons_zero, List.set_cons_succ, List.getElem_toArray, List.getElem_cons_succ, List.getElem_cons_zero])
          refine wpAnyH_done (by kernel_rfl) ?_ _
          go_wp2_with fail
          refine bodyPost_ret (v := .tuple #[.slice none 0 0, .slice none 0 0, .slice none 0 0, .bool false]) (by simp [results, Tryd.results16, go_sem]) rfl ?_
          exact run_refused hBe
        by_cases h13 : op = 13
        · have e13 : (op == 13) = true := by simp [h13]
          clear h13
          refine wp_region_held_drew (S := fun W => W.cell? ⟨p, 0, none⟩ = some (.pointer (some ⟨m1, 0, none⟩)) ∧ W.cell? ⟨p, 1, none⟩ = some (.pointer (some ⟨m2, 0, none⟩)) ∧ W.cell? ⟨sb, 0, none⟩ = some (.int .i64 op) ∧ W.cell? ⟨sb, 1, none⟩ = some (.string name) ∧ W.cell? ⟨sb, 2, none⟩ = some (.string other) ∧ W.cell? ⟨sb, 3, none⟩ = some (.int .i64 flag) ∧ W.cell? ⟨sb, 4, none⟩ = some (.int .i64 perm) ∧ W.cell? ⟨sb, 5, none⟩ = some (.int .i64 0) ∧ W.cell? ⟨sb, 6, none⟩ = some (.slice da dl dc) ∧ W.cell? ⟨sb, 7, none⟩ = some (.int .i64 off) ∧ W.cell? ⟨sb, 8, none⟩ = some (.int .i64 wh) ∧ W.cell? ⟨sb, 9, none⟩ = some (.int .i64 n)) (by kernel_rfl) (rc_cells hp0 hs0) (fun hHeld => ?_)
          refine wpAnyH_take (i := 0) (v := ?_) rfl (by kernel_rfl) (by kernel_rfl) (by kernel_rfl) (fun _ _ _ h => h) (Or.inl ⟨by rfl, ?_⟩) (by assumption) ?_
          rotate_left
          · (intro w hSw; (try dsimp only at hSw); go_split_ands; go_simp) <;> with_reducible rfl
          (try simp only [Act.put, List.setIfInBounds_toArray, List.set_cons_zero, List.set_cons_succ, List.getElem_toArray, List.getElem_cons_succ, List.getElem_cons_zero])
          refine wpAnyH_ready (rs := [1]) (by kernel_rfl) (by simp) ?_
          refine AllReadyH.cons rfl (fun K hK => ?_) AllReadyH.nil
          go_simp; go_at_call 27; refine (onh_yes ⟨op, name, other, flag, perm, 0, da, dl, dc, off, wh, n⟩ _ (by assumption)).mono ?_; rintro e X1 ⟨rfl, hb1'⟩; have hp1 := (hb1'.block _ (lt_of_heap hp0)).trans hp0; have hs1 := (hb1'.block _ (lt_of_heap hs0)).trans hs0; have hBa := hB0.trans (Below.mono (w := W0) (w' := X1) ⟨hb1'.os, hb1'.tape, hb1'.output, hb1'.size, hb1'.block⟩ hB0.size)
          refine hK.out _ _ (rc_cells hp1 hs1) (fun hHeld => ?_)
          clear hK K
          (try simp only [Act.put, List.setIfInBounds_toArray, List.set_cons_zero, List.set_cons_succ, List.getElem_toArray, List.getElem_cons_succ, List.getElem_cons_zero])
          have hBe : Below w.heap.size w X1 := hBa
          refine wpAnyH_take (i := 2) (v := ?_) rfl (by kernel_rfl) (by kernel_rfl) (by kernel_rfl) (fun _ _ _ h => h) (Or.inl ⟨by rfl, ?_⟩) (by assumption) ?_
          rotate_left
          · (intro w hSw; clear hSw; go_simp) <;> with_reducible rfl
          (try simp only [Act.put, List.setIfInBounds_toArray, List.set_cons_zero, List.set_cons_succ, List.getElem_toArray, List.getElem_cons_succ, List.getElem_cons_zero])
          refine wpAnyH_take (i := 3) (v := ?_) rfl (by kernel_rfl) (by kernel_rfl) (by kernel_rfl) (fun _ _ _ h => h) (Or.inl ⟨by rfl, ?_⟩) (by assumption) ?_
          rotate_left
          · (intro w hSw; clear hSw; go_simp) <;> with_reducible rfl
          (try simp only [Act.put, List.setIfInBounds_toArray, List.set_cons_zero, List.set_cons_succ, List.getElem_toArray, List.getElem_cons_succ, List.getElem_cons_zero])
          refine wpAnyH_take (i := 4) (v := ?_) rfl (by kernel_rfl) (by kernel_rfl) (by kernel_rfl) (fun _ _ _ h => h) (Or.inl ⟨by rfl, ?_⟩) (by assumption) ?_
          rotate_left
          · (intro w hSw; clear hSw; go_simp) <;> with_reducible rfl
          (try simp only [Act.put, List.setIfInBounds_toArray, List.set_cons_zero, List.set_cons_succ, List.getElem_toArray, List.getElem_cons_succ, List.getElem_cons_zero])
          refine wpAnyH_take (i := 5) (v := ?_) rfl (by kernel_rfl) (by kernel_rfl) (by kernel_rfl) (fun _ _ _ h => h) (Or.inl ⟨by rfl, ?_⟩) (by assumption) ?_
          rotate_left
          · (intro w hSw; (try dsimp only at hSw); go_split_ands; go_simp) <;> with_reducible rfl
          (try simp only [Act.put, List.setIfInBounds_toArray, List.set_cons_zero, List.set_cons_succ, List.getElem_toArray, List.getElem_cons_succ, List.getElem_cons_zero])
          refine wpAnyH_take (i := 6) (v := ?_) rfl (by kernel_rfl) (by kernel_rfl) (by kernel_rfl) (fun _ _ _ h => h) (Or.inl ⟨by rfl, ?_⟩) (by assumption) ?_
          rotate_left
          · (intro w hSw; clear hSw; go_simp) <;> with_reducible rfl
          (try simp only [Act.put, List.setIfInBounds_toArray, List.set_cons_zero, List.set_cons_succ, List.getElem_toArray, List.getElem_cons_succ, List.getElem_cons_zero])
          refine wpAnyH_take (i := 7) (v := ?_) rfl (by kernel_rfl) (by kernel_rfl) (by kernel_rfl) (fun _ _ _ h => h) (Or.inl ⟨by rfl, ?_⟩) (by assumption) ?_
          rotate_left
          · (intro w hSw; clear hSw; go_simp) <;> with_reducible rfl
          (try simp only [Act.put, List.setIfInBounds_toArray, List.set_cons_zero, List.set_cons_succ, List.getElem_toArray, List.getElem_cons_succ, List.getElem_cons_zero])
          refine wpAnyH_take (i := 8) (v := ?_) rfl (by kernel_rfl) (by kernel_rfl) (by kernel_rfl) (fun _ _ _ h => h) (Or.inl ⟨by rfl, ?_⟩) (by assumption) ?_
          rotate_left
          · (intro w hSw; clear hSw; go_simp) <;> with_reducible rfl
          (try simp only [Act.put, List.setIfInBounds_toArray, List.set_cons_zero, List.set_cons_succ, List.getElem_toArray, List.getElem_cons_succ, List.getElem_cons_zero])
          refine wpAnyH_take (i := 9) (v := undef) rfl (by kernel_rfl) (by kernel_rfl) (by kernel_rfl) (fun _ _ _ h => h) (Or.inr ⟨by rfl, rfl⟩) (by assumption) ?_
          (try simp only [Act.put, List.setIfInBounds_toArray, List.set_cons_zero, List.set_cons_succ, List.getElem_toArray, List.getElem_cons_succ, List.getElem_cons_zero])
          refine wpAnyH_take (i := 10) (v := undef) rfl (by kernel_rfl) (by kernel_rfl) (by kernel_rfl) (fun _ _ _ h => h) (Or.inr ⟨by rfl, rfl⟩) (by assumption) ?_
          (try simp only [Act.put, List.setIfInBounds_toArray, List.set_cons_zero, List.set_cons_succ, List.getElem_toArray, List.getElem_cons_succ, List.getElem_cons_zero])
          refine wpAnyH_take (i := 11) (v := undef) rfl (by kernel_rfl) (by kernel_rfl) (by kernel_rfl) (fun _ _ _ h => h) (Or.inr ⟨by rfl, rfl⟩) (by assumption) ?_
          (try simp only [Act.put, List.setIfInBounds_toArray, List.set_cons_zero, List.set_cons_succ, List.getElem_toArray, List.getElem_cons_succ, List.getElem_cons_zero])
          refine wpAnyH_take (i := 12) (v := ?_) rfl (by kernel_rfl) (by kernel_rfl) (by kernel_rfl) (fun _ _ _ h => h) (Or.inl ⟨by rfl, ?_⟩) (by assumption) ?_
          rotate_left
          · (intro w hSw; clear hSw; go_simp) <;> with_reducible rfl
          (try simp only [Act.put, List.setIfInBounds_toArray, List.set_cons_zero, List.set_cons_succ, List.getElem_toArray, List.getElem_cons_succ, List.getElem_cons_zero])
          refine wpAnyH_take (i := 13) (v := ?_) rfl (by kernel_rfl) (by kernel_rfl) (by kernel_rfl) (fun _ _ _ h => h) (Or.inl ⟨by rfl, ?_⟩) (by assumption) ?_
          rotate_left
          · (intro w hSw; clear hSw; go_simp) <;> with_reducible rfl
          (try simp only [Act.put, List.setIfInBounds_toArray, List.set_cons_zero, List.set_cons_succ, List.getElem_toArray, List.getElem_cons_succ, List.getElem_cons_zero])
          refine wpAnyH_take (i := 14) (v := undef) rfl (by kernel_rfl) (by kernel_rfl) (by kernel_rfl) (fun _ _ _ h => h) (Or.inr ⟨by rfl, rfl⟩) (by assumption) ?_
          (try simp only [Act.put, List.setIfInBounds_toArray, List.set_cons_zero, List.set_cons_succ, List.getElem_toArray, List.getElem_cons_succ, List.getElem_cons_zero])
          refine wpAnyH_take (i := 15) (v := undef) rfl (by kernel_rfl) (by kernel_rfl) (by kernel_rfl) (fun _ _ _ h => h) (Or.inr ⟨by rfl, rfl⟩) (by assumption) ?_
          (try simp only [Act.put, List.setIfInBounds_toArray, List.set_cons_zero, List.set_cons_succ, List.getElem_toArray, List.getElem_cons_succ, List.getElem_cons_zero])
          refine wpAnyH_take (i := 16) (v := undef) rfl (by kernel_rfl) (by kernel_rfl) (by kernel_rfl) (fun _ _ _ h => h) (Or.inr ⟨by rfl, rfl⟩) (by assumption) ?_
          (try simp only [Act.put, List.setIfInBounds_toArray, List.set_cons_zero, List.set_cons_succ, List.getElem_toArray, List.getElem_cons_succ, List.getElem_cons_zero])
          refine wpAnyH_take (i := 17) (v := ?_) rfl (by kernel_rfl) (by kernel_rfl) (by kernel_rfl) (fun _ _ _ h => h) (Or.inl ⟨by rfl, ?_⟩) (by assumption) ?_
          rotate_left
          · (intro w hSw; clear hSw; go_simp) <;> with_reducible rfl
          (try simp only [Act.put, List.setIfInBounds_toArray, List.set_cons_zero, List.set_cons_succ, List.getElem_toArray, List.getElem_cons_succ, List.getElem_cons_zero])
          refine wpAnyH_take (i := 18) (v := ?_) rfl (by kernel_rfl) (by kernel_rfl) (by kernel_rfl) (fun _ _ _ h => h) (Or.inl ⟨by rfl, ?_⟩) (by assumption) ?_
          rotate_left
          · (intro w hSw; clear hSw; go_simp) <;> with_reducible rfl
          (try simp only [Act.put, List.setIfInBounds_toArray, List.set_cons_zero, List.set_cons_succ, List.getElem_toArray, List.getElem_cons_succ, List.getElem_cons_zero])
          refine wpAnyH_take (i := 19) (v := undef) rfl (by kernel_rfl) (by kernel_rfl) (by kernel_rfl) (fun _ _ _ h => h) (Or.inr ⟨by rfl, rfl⟩) (by assumption) ?_
          (try simp only [Act.put, List.setIfInBounds_toArray, List.set_cons_zero, List.set_cons_succ, List.getElem_toArray, List.getElem_cons_succ, List.getElem_cons_zero])
          refine wpAnyH_take (i := 20) (v := undef) rfl (by kernel_rfl) (by kernel_rfl) (by kernel_rfl) (fun _ _ _ h => h) (Or.inr ⟨by rfl, rfl⟩) (by assumption) ?_
          (try simp only [Act.put, List.setIfInBounds_toArray, List.set_cons_zero, List.set_cons_succ, List.getElem_toArray, List.getElem_cons_succ, List.getElem_cons_zero])
          refine wpAnyH_take (i := 21) (v := undef) rfl (by kernel_rfl) (by kernel_rfl) (by kernel_rfl) (fun _ _ _ h => h) (Or.inr ⟨by rfl, rfl⟩) (by assumption) ?_
          (try simp only [Act.put, List.setIfInBounds_toArray, List.set_cons_zero, List.set_cons_succ, List.getElem_toArray, List.getElem_cons_succ, List.getElem_cons_zero])
          refine wpAnyH_take (i := 22) (v := undef) rfl (by kernel_rfl) (by kernel_rfl) (by kernel_rfl) (fun _ _ _ h => h) (Or.inr ⟨by rfl, rfl⟩) (by assumption) ?_
          (try simp only [Act.put, List.setIfInBounds_toArray, List.set_cons_zero, List.set_cons_succ, List.getElem_toArray, List.getElem_cons_succ, List.getElem_cons_zero])
          refine wpAnyH_take (i := 23) (v := undef) rfl (by kernel_rfl) (by kernel_rfl) (by kernel_rfl) (fun _ _ _ h => h) (Or.inr ⟨by rfl, rfl⟩) (by assumption) ?_
          (try simp only [Act.put, List.setIfInBounds_toArray, List.set_cons_zero, List.set_cons_succ, List.getElem_toArray, List.getElem_cons_succ, List.getElem_cons_zero])
          refine wpAnyH_take (i := 24) (v := undef) rfl (by kernel_rfl) (by kernel_rfl) (by kernel_rfl) (fun _ _ _ h => h) (Or.inr ⟨by rfl, rfl⟩) (by assumption) ?_
          (try simp only [Act.put, List.setIfInBounds_toArray, List.set_cons_zero, List.set_cons_succ, List.getElem_toArray, List.getElem_cons_succ, List.getElem_cons_zero])
          refine wpAnyH_take (i := 25) (v := undef) rfl (by kernel_rfl) (by kernel_rfl) (by kernel_rfl) (fun _ _ _ h => h) (Or.inr ⟨by rfl, rfl⟩) (by assumption) ?_
          (try simp only [Act.put, List.setIfInBounds_toArray, List.set_cons_zero, List.set_cons_succ, List.getElem_toArray, List.getElem_cons_succ, List.getElem_cons_zero])
          refine wpAnyH_take (i := 26) (v := ?_) rfl (by kernel_rfl) (by kernel_rfl) (by kernel_rfl) (fun _ _ _ h => h) (Or.inl ⟨by rfl, ?_⟩) (by assumption) ?_
          rotate_left
          · (intro w hSw; clear hSw; go_simp) <;> with_reducible rfl
          (try simp only [Act.put, List.setIfInBounds_toArray, List.set_cons_zero, List.set_cons_succ, List.getElem_toArray, List.getElem_cons_succ, List.getElem_cons_zero])
          refine wpAnyH_take (i := 27) (v := ?_) rfl (by kernel_rfl) (by kernel_rfl) (by kernel_rfl) (fun _ _ _ h => h) (Or.inl ⟨by rfl, ?_⟩) (by assumption) ?_
          rotate_left
          · (intro w hSw; clear hSw; go_simp) <;> with_reducible rfl
          (try simp only [Act.put, List.setIfInBounds_toArray, List.set_cons_zero, List.set_cons_succ, List.getElem_toArray, List.getElem_cons_succ, List.getElem_cons_zero])
          refine wpAnyH_take (i := 28) (v := undef) rfl (by kernel_rfl) (by kernel_rfl) (by kernel_rfl) (fun _ _ _ h => h) (Or.inr ⟨by rfl, rfl⟩) (by assumption) ?_
          (try simp only [Act.put, List.setIfInBounds_toArray, List.set_cons_zero, List.set_cons_succ, List.getElem_toArray, List.getElem_cons_succ, List.getElem_cons_zero])
          refine wpAnyH_take (i := 29) (v := undef) rfl (by kernel_rfl) (by kernel_rfl) (by kernel_rfl) (fun _ _ _ h => h) (Or.inr ⟨by rfl, rfl⟩) (by assumption) ?_
          (try simp only [Act.put, List.setIfInBounds_toArray, List.set_cons_zero, List.set_cons_succ, List.getElem_toArray, List.getElem_cons_succ, List.getElem_cons_zero])
          refine wpAnyH_take (i := 30) (v := undef) rfl (by kernel_rfl) (by kernel_rfl) (by kernel_rfl) (fun _ _ _ h => h) (Or.inr ⟨by rfl, rfl⟩) (by assumption) ?_
          (try simp only [Act.put, List.setIfInBounds_toArray, List.set_cons_zero, List.set_cons_succ, List.getElem_toArray, List.getElem_cons_succ, List.getElem_cons_zero])
          refine wpAnyH_take (i := 31) (v := undef) rfl (by kernel_rfl) (by kernel_rfl) (by kernel_rfl) (fun _ _ _ h => h) (Or.inr ⟨by rfl, rfl⟩) (by assumption) ?_
          (try simp only [Act.put, List.setIfInBounds_toArray, List.set_cons_zero, List.set_cons_succ, List.getElem_toArray, List.getElem_cons_succ, List.getElem_cons_zero])
          refine wpAnyH_take (i := 32) (v := undef) rfl (by kernel_rfl) (by kernel_rfl) (by kernel_rfl) (fun _ _ _ h => h) (Or.inr ⟨by rfl, rfl⟩) (by assumption) ?_
          (try simp only [Act.put, List.setIfInBounds_toArray, List.set_cons_zero, List.set_cons_succ, List.getElem_toArray, List.getElem_cons_succ, List.getElem_cons_zero])
          refine wpAnyH_take (i := 33) (v := undef) rfl (by kernel_rfl) (by kernel_rfl) (by kernel_rfl) (fun _ _ _ h => h) (Or.inr ⟨by rfl, rfl⟩) (by assumption) ?_
          (try simp only [Act.put, List.setIfInBounds_toArray, List.set_cons_zero, List.set_cons_succ, List.getElem_toArray, List.getElem_cons_succ, List.getElem_cons_zero])
          refine wpAnyH_take (i := 34) (v := undef) rfl (by kernel_rfl) (by kernel_rfl) (by kernel_rfl) (fun _ _ _ h => h) (Or.inr ⟨by rfl, rfl⟩) (by assumption) ?_
          (try simp only [Act.put, List.setIfInBounds_toArray, List.set_cons_zero, List.set_cons_succ, List.getElem_toArray, List.getElem_cons_succ, List.getElem_cons_zero])
          refine wpAnyH_take (i := 35) (v := ?_) rfl (by kernel_rfl) (by kernel_rfl) (by kernel_rfl) (fun _ _ _ h => h) (Or.inl ⟨by rfl, ?_⟩) (by assumption) ?_
          rotate_left
          · (intro w hSw; clear hSw; go_simp) <;> with_reducible rfl
          (try simp only [Act.put, List.setIfInBounds_toArray, List.set_cons_zero, List.set_cons_succ, List.getElem_toArray, List.getElem_cons_succ, List.getElem_cons_zero])
          refine wpAnyH_done (by kernel_rfl) ?_ _
          go_wp2_with fail
          refine bodyPost_ret (v := .tuple #[.slice none 0 0, .slice none 0 0, .slice none 0 0, .bool false]) (by simp [results, Tryd.results16, go_sem]) rfl ?_
          exact run_refused hBe
        by_cases h22 : op = 22
        · have e13 : (op == 13) = false := beq_eq_false_iff_ne.2 h13
          have e22 : (op == 22) = true := by simp [h22]
          clear h22
          refine wp_region_held_drew (S := fun W => W.cell? ⟨p, 0, none⟩ = some (.pointer (some ⟨m1, 0, none⟩)) ∧ W.cell? ⟨p, 1, none⟩ = some (.pointer (some ⟨m2, 0, none⟩)) ∧ W.cell? ⟨sb, 0, none⟩ = some (.int .i64 op) ∧ W.cell? ⟨sb, 1, none⟩ = some (.string name) ∧ W.cell? ⟨sb, 2, none⟩ = some (.string other) ∧ W.cell? ⟨sb, 3, none⟩ = some (.int .i64 flag) ∧ W.cell? ⟨sb, 4, none⟩ = some (.int .i64 perm) ∧ W.cell? ⟨sb, 5, none⟩ = some (.int .i64 0) ∧ W.cell? ⟨sb, 6, none⟩ = some (.slice da dl dc) ∧ W.cell? ⟨sb, 7, none⟩ = some (.int .i64 off) ∧ W.cell? ⟨sb, 8, none⟩ = some (.int .i64 wh) ∧ W.cell? ⟨sb, 9, none⟩ = some (.int .i64 n)) (by kernel_rfl) (rc_cells hp0 hs0) (fun hHeld => ?_)
          refine wpAnyH_take (i := 0) (v := ?_) rfl (by kernel_rfl) (by kernel_rfl) (by kernel_rfl) (fun _ _ _ h => h) (Or.inl ⟨by rfl, ?_⟩) (by assumption) ?_
          rotate_left
          · (intro w hSw; (try dsimp only at hSw); go_split_ands; go_simp) <;> with_reducible rfl
          (try simp only [Act.put, List.setIfInBounds_toArray, List.set_cons_zero, List.set_cons_succ, List.getElem_toArray, List.getElem_cons_succ, List.getElem_cons_zero])
          refine wpAnyH_ready (rs := [1]) (by kernel_rfl) (by simp) ?_
          refine AllReadyH.cons rfl (fun K hK => ?_) AllReadyH.nil
          go_simp; go_at_call 27; refine (onh_yes ⟨op, name, other, flag, perm, 0, da, dl, dc, off, wh, n⟩ _ (by assumption)).mono ?_; rintro e X1 ⟨rfl, hb1'⟩; have hp1 := (hb1'.block _ (lt_of_heap hp0)).trans hp0; have hs1 := (hb1'.block _ (lt_of_heap hs0)).trans hs0; have hBa := hB0.trans (Below.mono (w := W0) (w' := X1) ⟨hb1'.os, hb1'.tape, hb1'.output, hb1'.size, hb1'.block⟩ hB0.size)
          refine hK.out _ _ (rc_cells hp1 hs1) (fun hHeld => ?_)
          clear hK K
          (try simp only [Act.put, List.setIfInBounds_toArray, List.set_cons_zero, List.set_cons_succ, List.getElem_toArray, List.getElem_cons_succ, List.getElem_cons_zero])
          have hBe : Below w.heap.size w X1 := hBa
          refine wpAnyH_take (i := 2) (v := ?_) rfl (by kernel_rfl) (by kernel_rfl) (by kernel_rfl) (fun _ _ _ h => h) (Or.inl ⟨by rfl, ?_⟩) (by assumption) ?_
          rotate_left
          · (intro w hSw; clear hSw; go_simp) <;> with_reducible rfl
          (try simp only [Act.put, List.setIfInBounds_toArray, List.set_cons_zero, List.set_cons_succ, List.getElem_toArray, List.getElem_cons_succ, List.getElem_cons_zero])
          refine wpAnyH_take (i := 3) (v := ?_) rfl (by kernel_rfl) (by kernel_rfl) (by kernel_rfl) (fun _ _ _ h => h) (Or.inl ⟨by rfl, ?_⟩) (by assumption) ?_
          rotate_left
          · (intro w hSw; clear hSw; go_simp) <;> with_reducible rfl
          (try simp only [Act.put, List.setIfInBounds_toArray, List.set_cons_zero, List.set_cons_succ, List.getElem_toArray, List.getElem_cons_succ, List.getElem_cons_zero])
          refine wpAnyH_take (i := 4) (v := ?_) rfl (by kernel_rfl) (by kernel_rfl) (by kernel_rfl) (fun _ _ _ h => h) (Or.inl ⟨by rfl, ?_⟩) (by assumption) ?_
          rotate_left
          · (intro w hSw; clear hSw; go_simp) <;> with_reducible rfl
          (try simp only [Act.put, List.setIfInBounds_toArray, List.set_cons_zero, List.set_cons_succ, List.getElem_toArray, List.getElem_cons_succ, List.getElem_cons_zero])
          refine wpAnyH_take (i := 5) (v := ?_) rfl (by kernel_rfl) (by kernel_rfl) (by kernel_rfl) (fun _ _ _ h => h) (Or.inl ⟨by rfl, ?_⟩) (by assumption) ?_
          rotate_left
          · (intro w hSw; (try dsimp only at hSw); go_split_ands; go_simp) <;> with_reducible rfl
          (try simp only [Act.put, List.setIfInBounds_toArray, List.set_cons_zero, List.set_cons_succ, List.getElem_toArray, List.getElem_cons_succ, List.getElem_cons_zero])
          refine wpAnyH_take (i := 6) (v := ?_) rfl (by kernel_rfl) (by kernel_rfl) (by kernel_rfl) (fun _ _ _ h => h) (Or.inl ⟨by rfl, ?_⟩) (by assumption) ?_
          rotate_left
          · (intro w hSw; clear hSw; go_simp) <;> with_reducible rfl
          (try simp only [Act.put, List.setIfInBounds_toArray, List.set_cons_zero, List.set_cons_succ, List.getElem_toArray, List.getElem_cons_succ, List.getElem_cons_zero])
          refine wpAnyH_take (i := 7) (v := ?_) rfl (by kernel_rfl) (by kernel_rfl) (by kernel_rfl) (fun _ _ _ h => h) (Or.inl ⟨by rfl, ?_⟩) (by assumption) ?_
          rotate_left
          · (intro w hSw; clear hSw; go_simp) <;> with_reducible rfl
          (try simp only [Act.put, List.setIfInBounds_toArray, List.set_cons_zero, List.set_cons_succ, List.getElem_toArray, List.getElem_cons_succ, List.getElem_cons_zero])
          refine wpAnyH_take (i := 8) (v := ?_) rfl (by kernel_rfl) (by kernel_rfl) (by kernel_rfl) (fun _ _ _ h => h) (Or.inl ⟨by rfl, ?_⟩) (by assumption) ?_
          rotate_left
          · (intro w hSw; clear hSw; go_simp) <;> with_reducible rfl
          (try simp only [Act.put, List.setIfInBounds_toArray, List.set_cons_zero, List.set_cons_succ, List.getElem_toArray, List.getElem_cons_succ, List.getElem_cons_zero])
          refine wpAnyH_take (i := 9) (v := ?_) rfl (by kernel_rfl) (by kernel_rfl) (by kernel_rfl) (fun _ _ _ h => h) (Or.inl ⟨by rfl, ?_⟩) (by assumption) ?_
          rotate_left
          · (intro w hSw; clear hSw; go_simp) <;> with_reducible rfl
          (try simp only [Act.put, List.setIfInBounds_toArray, List.set_cons_zero, List.set_cons_succ, List.getElem_toArray, List.getElem_cons_succ, List.getElem_cons_zero])
          refine wpAnyH_take (i := 10) (v := ?_) rfl (by kernel_rfl) (by kernel_rfl) (by kernel_rfl) (fun _ _ _ h => h) (Or.inl ⟨by rfl, ?_⟩) (by assumption) ?_
          rotate_left
          · (intro w hSw; (try dsimp only at hSw); go_split_ands; go_simp) <;> with_reducible rfl
          (try simp only [Act.put, List.setIfInBounds_toArray, List.set_cons_zero, List.set_cons_succ, List.getElem_toArray, List.getElem_cons_succ, List.getElem_cons_zero])
          refine wpAnyH_take (i := 11) (v := ?_) rfl (by kernel_rfl) (by kernel_rfl) (by kernel_rfl) (fun _ _ _ h => h) (Or.inl ⟨by rfl, ?_⟩) (by assumption) ?_
          rotate_left
          · (intro w hSw; clear hSw; go_simp) <;> with_reducible rfl
          (try simp only [Act.put, List.setIfInBounds_toArray, List.set_cons_zero, List.set_cons_succ, List.getElem_toArray, List.getElem_cons_succ, List.getElem_cons_zero])
          refine wpAnyH_take (i := 12) (v := ?_) rfl (by kernel_rfl) (by kernel_rfl) (by kernel_rfl) (fun _ _ _ h => h) (Or.inl ⟨by rfl, ?_⟩) (by assumption) ?_
          rotate_left
          · (intro w hSw; clear hSw; go_simp) <;> with_reducible rfl
          (try simp only [Act.put, List.setIfInBounds_toArray, List.set_cons_zero, List.set_cons_succ, List.getElem_toArray, List.getElem_cons_succ, List.getElem_cons_zero])
          refine wpAnyH_take (i := 13) (v := ?_) rfl (by kernel_rfl) (by kernel_rfl) (by kernel_rfl) (fun _ _ _ h => h) (Or.inl ⟨by rfl, ?_⟩) (by assumption) ?_
          rotate_left
          · (intro w hSw; clear hSw; go_simp) <;> with_reducible rfl
          (try simp only [Act.put, List.setIfInBounds_toArray, List.set_cons_zero, List.set_cons_succ, List.getElem_toArray, List.getElem_cons_succ, List.getElem_cons_zero])
          refine wpAnyH_take (i := 14) (v := undef) rfl (by kernel_rfl) (by kernel_rfl) (by kernel_rfl) (fun _ _ _ h => h) (Or.inr ⟨by rfl, rfl⟩) (by assumption) ?_
          (try simp only [Act.put, List.setIfInBounds_toArray, List.set_cons_zero, List.set_cons_succ, List.getElem_toArray, List.getElem_cons_succ, List.getElem_cons_zero])
          refine wpAnyH_take (i := 15) (v := undef) rfl (by kernel_rfl) (by kernel_rfl) (by kernel_rfl) (fun _ _ _ h => h) (Or.inr ⟨by rfl, rfl⟩) (by assumption) ?_
          (try simp only [Act.put, List.setIfInBounds_toArray, List.set_cons_zero, List.set_cons_succ, List.getElem_toArray, List.getElem_cons_succ, List.getElem_cons_zero])
          refine wpAnyH_take (i := 16) (v := undef) rfl (by kernel_rfl) (by kernel_rfl) (by kernel_rfl) (fun _ _ _ h => h) (Or.inr ⟨by rfl, rfl⟩) (by assumption) ?_
          (try simp only [Act.put, List.setIfInBounds_toArray, List.set_cons_zero, List.set_cons_succ, List.getElem_toArray, List.getElem_cons_succ, List.getElem_cons_zero])
          refine wpAnyH_take (i := 17) (v := ?_) rfl (by kernel_rfl) (by kernel_rfl) (by kernel_rfl) (fun _ _ _ h => h) (Or.inl ⟨by rfl, ?_⟩) (by assumption) ?_
          rotate_left
          · (intro w hSw; clear hSw; go_simp) <;> with_reducible rfl
          (try simp only [Act.put, List.setIfInBounds_toArray, List.set_cons_zero, List.set_cons_succ, List.getElem_toArray, List.getElem_cons_succ, List.getElem_cons_zero])
          refine wpAnyH_take (i := 18) (v := ?_) rfl (by kernel_rfl) (by kernel_rfl) (by kernel_rfl) (fun _ _ _ h => h) (Or.inl ⟨by rfl, ?_⟩) (by assumption) ?_
          rotate_left
          · (intro w hSw; clear hSw; go_simp) <;> with_reducible rfl
          (try simp only [Act.put, List.setIfInBounds_toArray, List.set_cons_zero, List.set_cons_succ, List.getElem_toArray, List.getElem_cons_succ, List.getElem_cons_zero])
          refine wpAnyH_take (i := 19) (v := undef) rfl (by kernel_rfl) (by kernel_rfl) (by kernel_rfl) (fun _ _ _ h => h) (Or.inr ⟨by rfl, rfl⟩) (by assumption) ?_
          (try simp only [Act.put, List.setIfInBounds_toArray, List.set_cons_zero, List.set_cons_succ, List.getElem_toArray, List.getElem_cons_succ, List.getElem_cons_zero])
          refine wpAnyH_take (i := 20) (v := undef) rfl (by kernel_rfl) (by kernel_rfl) (by kernel_rfl) (fun _ _ _ h => h) (Or.inr ⟨by rfl, rfl⟩) (by assumption) ?_
          (try simp only [Act.put, List.setIfInBounds_toArray, List.set_cons_zero, List.set_cons_succ, List.getElem_toArray, List.getElem_cons_succ, List.getElem_cons_zero])
          refine wpAnyH_take (i := 21) (v := undef) rfl (by kernel_rfl) (by kernel_rfl) (by kernel_rfl) (fun _ _ _ h => h) (Or.inr ⟨by rfl, rfl⟩) (by assumption) ?_
          (try simp only [Act.put, List.setIfInBounds_toArray, List.set_cons_zero, List.set_cons_succ, List.getElem_toArray, List.getElem_cons_succ, List.getElem_cons_zero])
          refine wpAnyH_take (i := 22) (v := undef) rfl (by kernel_rfl) (by kernel_rfl) (by kernel_rfl) (fun _ _ _ h => h) (Or.inr ⟨by rfl, rfl⟩) (by assumption) ?_
          (try simp only [Act.put, List.setIfInBounds_toArray, List.set_cons_zero, List.set_cons_succ, List.getElem_toArray, List.getElem_cons_succ, List.getElem_cons_zero])
          refine wpAnyH_take (i := 23) (v := undef) rfl (by kernel_rfl) (by kernel_rfl) (by kernel_rfl) (fun _ _ _ h => h) (Or.inr ⟨by rfl, rfl⟩) (by assumption) ?_
          (try simp only [Act.put, List.setIfInBounds_toArray, List.set_cons_zero, List.set_cons_succ, List.getElem_toArray, List.getElem_cons_succ, List.getElem_cons_zero])
          refine wpAnyH_take (i := 24) (v := undef) rfl (by kernel_rfl) (by kernel_rfl) (by kernel_rfl) (fun _ _ _ h => h) (Or.inr ⟨by rfl, rfl⟩) (by assumption) ?_
          (try simp only [Act.put, List.setIfInBounds_toArray, List.set_cons_zero, List.set_cons_succ, List.getElem_toArray, List.getElem_cons_succ, List.getElem_cons_zero])
          refine wpAnyH_take (i := 25) (v := undef) rfl (by kernel_rfl) (by kernel_rfl) (by kernel_rfl) (fun _ _ _ h => h) (Or.inr ⟨by rfl, rfl⟩) (by assumption) ?_
          (try simp only [Act.put, List.setIfInBounds_toArray, List.set_cons_zero, List.set_cons_succ, List.getElem_toArray, List.getElem_cons_succ, List.getElem_cons_zero])
          refine wpAnyH_take (i := 26) (v := ?_) rfl (by kernel_rfl) (by kernel_rfl) (by kernel_rfl) (fun _ _ _ h => h) (Or.inl ⟨by rfl, ?_⟩) (by assumption) ?_
          rotate_left
          · (intro w hSw; clear hSw; go_simp) <;> with_reducible rfl
          (try simp only [Act.put, List.setIfInBounds_toArray, List.set_cons_zero, List.set_cons_succ, List.getElem_toArray, List.getElem_cons_succ, List.getElem_cons_zero])
          refine wpAnyH_take (i := 27) (v := ?_) rfl (by kernel_rfl) (by kernel_rfl) (by kernel_rfl) (fun _ _ _ h => h) (Or.inl ⟨by rfl, ?_⟩) (by assumption) ?_
          rotate_left
          · (intro w hSw; clear hSw; go_simp) <;> with_reducible rfl
          (try simp only [Act.put, List.setIfInBounds_toArray, List.set_cons_zero, List.set_cons_succ, List.getElem_toArray, List.getElem_cons_succ, List.getElem_cons_zero])
          refine wpAnyH_take (i := 28) (v := undef) rfl (by kernel_rfl) (by kernel_rfl) (by kernel_rfl) (fun _ _ _ h => h) (Or.inr ⟨by rfl, rfl⟩) (by assumption) ?_
          (try simp only [Act.put, List.setIfInBounds_toArray, List.set_cons_zero, List.set_cons_succ, List.getElem_toArray, List.getElem_cons_succ, List.getElem_cons_zero])
          refine wpAnyH_take (i := 29) (v := undef) rfl (by kernel_rfl) (by kernel_rfl) (by kernel_rfl) (fun _ _ _ h => h) (Or.inr ⟨by rfl, rfl⟩) (by assumption) ?_
          (try simp only [Act.put, List.setIfInBounds_toArray, List.set_cons_zero, List.set_cons_succ, List.getElem_toArray, List.getElem_cons_succ, List.getElem_cons_zero])
          refine wpAnyH_take (i := 30) (v := undef) rfl (by kernel_rfl) (by kernel_rfl) (by kernel_rfl) (fun _ _ _ h => h) (Or.inr ⟨by rfl, rfl⟩) (by assumption) ?_
          (try simp only [Act.put, List.setIfInBounds_toArray, List.set_cons_zero, List.set_cons_succ, List.getElem_toArray, List.getElem_cons_succ, List.getElem_cons_zero])
          refine wpAnyH_take (i := 31) (v := undef) rfl (by kernel_rfl) (by kernel_rfl) (by kernel_rfl) (fun _ _ _ h => h) (Or.inr ⟨by rfl, rfl⟩) (by assumption) ?_
          (try simp only [Act.put, List.setIfInBounds_toArray, List.set_cons_zero, List.set_cons_succ, List.getElem_toArray, List.getElem_cons_succ, List.getElem_cons_zero])
          refine wpAnyH_take (i := 32) (v := undef) rfl (by kernel_rfl) (by kernel_rfl) (by kernel_rfl) (fun _ _ _ h => h) (Or.inr ⟨by rfl, rfl⟩) (by assumption) ?_
          (try simp only [Act.put, List.setIfInBounds_toArray, List.set_cons_zero, List.set_cons_succ, List.getElem_toArray, List.getElem_cons_succ, List.getElem_cons_zero])
          refine wpAnyH_take (i := 33) (v := undef) rfl (by kernel_rfl) (by kernel_rfl) (by kernel_rfl) (fun _ _ _ h => h) (Or.inr ⟨by rfl, rfl⟩) (by assumption) ?_
          (try simp only [Act.put, List.setIfInBounds_toArray, List.set_cons_zero, List.set_cons_succ, List.getElem_toArray, List.getElem_cons_succ, List.getElem_cons_zero])
          refine wpAnyH_take (i := 34) (v := undef) rfl (by kernel_rfl) (by kernel_rfl) (by kernel_rfl) (fun _ _ _ h => h) (Or.inr ⟨by rfl, rfl⟩) (by assumption) ?_
          (try simp only [Act.put, List.setIfInBounds_toArray, List.set_cons_zero, List.set_cons_succ, List.getElem_toArray, List.getElem_cons_succ, List.getElem_cons_zero])
          refine wpAnyH_take (i := 35) (v := ?_) rfl (by kernel_rfl) (by kernel_rfl) (by kernel_rfl) (fun _ _ _ h => h) (Or.inl ⟨by rfl, ?_⟩) (by assumption) ?_
          rotate_left
          · (intro w hSw; clear hSw; go_simp) <;> with_reducible rfl
          (try simp only [Act.put, List.setIfInBounds_toArray, List.set_cons_zero, List.set_cons_succ, List.getElem_toArray, List.getElem_cons_succ, List.getElem_cons_zero])
          refine wpAnyH_done (by kernel_rfl) ?_ _
          go_wp2_with fail
          refine bodyPost_ret (v := .tuple #[.slice none 0 0, .slice none 0 0, .slice none 0 0, .bool false]) (by simp [results, Tryd.results16, go_sem]) rfl ?_
          exact run_refused hBe
        by_cases h21 : op = 21
        · have e13 : (op == 13) = false := beq_eq_false_iff_ne.2 h13
          have e22 : (op == 22) = false := beq_eq_false_iff_ne.2 h22
          have e21 : (op == 21) = true := by simp [h21]
          clear h21
          refine wp_region_held_drew (S := fun W => W.cell? ⟨p, 0, none⟩ = some (.pointer (some ⟨m1, 0, none⟩)) ∧ W.cell? ⟨p, 1, none⟩ = some (.pointer (some ⟨m2, 0, none⟩)) ∧ W.cell? ⟨sb, 0, none⟩ = some (.int .i64 op) ∧ W.cell? ⟨sb, 1, none⟩ = some (.string name) ∧ W.cell? ⟨sb, 2, none⟩ = some (.string other) ∧ W.cell? ⟨sb, 3, none⟩ = some (.int .i64 flag) ∧ W.cell? ⟨sb, 4, none⟩ = some (.int .i64 perm) ∧ W.cell? ⟨sb, 5, none⟩ = some (.int .i64 0) ∧ W.cell? ⟨sb, 6, none⟩ = some (.slice da dl dc) ∧ W.cell? ⟨sb, 7, none⟩ = some (.int .i64 off) ∧ W.cell? ⟨sb, 8, none⟩ = some (.int .i64 wh) ∧ W.cell? ⟨sb, 9, none⟩ = some (.int .i64 n)) (by kernel_rfl) (rc_cells hp0 hs0) (fun hHeld => ?_)
          refine wpAnyH_take (i := 0) (v := ?_) rfl (by kernel_rfl) (by kernel_rfl) (by kernel_rfl) (fun _ _ _ h => h) (Or.inl ⟨by rfl, ?_⟩) (by assumption) ?_
          rotate_left
          · (intro w hSw; (try dsimp only at hSw); go_split_ands; go_simp) <;> with_reducible rfl
          (try simp only [Act.put, List.setIfInBounds_toArray, List.set_cons_zero, List.set_cons_succ, List.getElem_toArray, List.getElem_cons_succ, List.getElem_cons_zero])
          refine wpAnyH_ready (rs := [1]) (by kernel_rfl) (by simp) ?_
          refine AllReadyH.cons rfl (fun K hK => ?_) AllReadyH.nil
          go_simp; go_at_call 27; refine (onh_yes ⟨op, name, other, flag, perm, 0, da, dl, dc, off, wh, n⟩ _ (by assumption)).mono ?_; rintro e X1 ⟨rfl, hb1'⟩; have hp1 := (hb1'.block _ (lt_of_heap hp0)).trans hp0; have hs1 := (hb1'.block _ (lt_of_heap hs0)).trans hs0; have hBa := hB0.trans (Below.mono (w := W0) (w' := X1) ⟨hb1'.os, hb1'.tape, hb1'.output, hb1'.size, hb1'.block⟩ hB0.size)
          refine hK.out _ _ (rc_cells hp1 hs1) (fun hHeld => ?_)
          clear hK K
          (try simp only [Act.put, List.setIfInBounds_toArray, List.set_cons_zero, List.set_cons_succ, List.getElem_toArray, List.getElem_cons_succ, List.getElem_cons_zero])
          have hBe : Below w.heap.size w X1 := hBa
          refine wpAnyH_take (i := 2) (v := ?_) rfl (by kernel_rfl) (by kernel_rfl) (by kernel_rfl) (fun _ _ _ h => h) (Or.inl ⟨by rfl, ?_⟩) (by assumption) ?_
          rotate_left
          · (intro w hSw; clear hSw; go_simp) <;> with_reducible rfl
          (try simp only [Act.put, List.setIfInBounds_toArray, List.set_cons_zero, List.set_cons_succ, List.getElem_toArray, List.getElem_cons_succ, List.getElem_cons_zero])
          refine wpAnyH_take (i := 3) (v := ?_) rfl (by kernel_rfl) (by kernel_rfl) (by kernel_rfl) (fun _ _ _ h => h) (Or.inl ⟨by rfl, ?_⟩) (by assumption) ?_
          rotate_left
          · (intro w hSw; clear hSw; go_simp) <;> with_reducible rfl
          (try simp only [Act.put, List.setIfInBounds_toArray, List.set_cons_zero, List.set_cons_succ, List.getElem_toArray, List.getElem_cons_succ, List.getElem_cons_zero])
          refine wpAnyH_take (i := 4) (v := ?_) rfl (by kernel_rfl) (by kernel_rfl) (by kernel_rfl) (fun _ _ _ h => h) (Or.inl ⟨by rfl, ?_⟩) (by assumption) ?_
          rotate_left
          · (intro w hSw; clear hSw; go_simp) <;> with_reducible rfl
          (try simp only [Act.put, List.setIfInBounds_toArray, List.set_cons_zero, List.set_cons_succ, List.getElem_toArray, List.getElem_cons_succ, List.getElem_cons_zero])
          refine wpAnyH_take (i := 5) (v := ?_) rfl (by kernel_rfl) (by kernel_rfl) (by kernel_rfl) (fun _ _ _ h => h) (Or.inl ⟨by rfl, ?_⟩) (by assumption) ?_
          rotate_left
          · (intro w hSw; (try dsimp only at hSw); go_split_ands; go_simp) <;> with_reducible rfl
          (try simp only [Act.put, List.setIfInBounds_toArray, List.set_cons_zero, List.set_cons_succ, List.getElem_toArray, List.getElem_cons_succ, List.getElem_cons_zero])
          refine wpAnyH_take (i := 6) (v := ?_) rfl (by kernel_rfl) (by kernel_rfl) (by kernel_rfl) (fun _ _ _ h => h) (Or.inl ⟨by rfl, ?_⟩) (by assumption) ?_
          rotate_left
          · (intro w hSw; clear hSw; go_simp) <;> with_reducible rfl
          (try simp only [Act.put, List.setIfInBounds_toArray, List.set_cons_zero, List.set_cons_succ, List.getElem_toArray, List.getElem_cons_succ, List.getElem_cons_zero])
          refine wpAnyH_take (i := 7) (v := ?_) rfl (by kernel_rfl) (by kernel_rfl) (by kernel_rfl) (fun _ _ _ h => h) (Or.inl ⟨by rfl, ?_⟩) (by assumption) ?_
          rotate_left
          · (intro w hSw; clear hSw; go_simp) <;> with_reducible rfl
          (try simp only [Act.put, List.setIfInBounds_toArray, List.set_cons_zero, List.set_cons_succ, List.getElem_toArray, List.getElem_cons_succ, List.getElem_cons_zero])
          refine wpAnyH_take (i := 8) (v := ?_) rfl (by kernel_rfl) (by kernel_rfl) (by kernel_rfl) (fun _ _ _ h => h) (Or.inl ⟨by rfl, ?_⟩) (by assumption) ?_
          rotate_left
          · (intro w hSw; clear hSw; go_simp) <;> with_reducible rfl
          (try simp only [Act.put, List.setIfInBounds_toArray, List.set_cons_zero, List.set_cons_succ, List.getElem_toArray, List.getElem_cons_succ, List.getElem_cons_zero])
          refine wpAnyH_take (i := 9) (v := ?_) rfl (by kernel_rfl) (by kernel_rfl) (by kernel_rfl) (fun _ _ _ h => h) (Or.inl ⟨by rfl, ?_⟩) (by assumption) ?_
          rotate_left
          · (intro w hSw; clear hSw; go_simp) <;> with_reducible rfl
          (try simp only [Act.put, List.setIfInBounds_toArray, List.set_cons_zero, List.set_cons_succ, List.getElem_toArray, List.getElem_cons_succ, List.getElem_cons_zero])
          refine wpAnyH_take (i := 10) (v := ?_) rfl (by kernel_rfl) (by kernel_rfl) (by kernel_rfl) (fun _ _ _ h => h) (Or.inl ⟨by rfl, ?_⟩) (by assumption) ?_
          rotate_left
          · (intro w hSw; (try dsimp only at hSw); go_split_ands; go_simp) <;> with_reducible rfl
          (try simp only [Act.put, List.setIfInBounds_toArray, List.set_cons_zero, List.set_cons_succ, List.getElem_toArray, List.getElem_cons_succ, List.getElem_cons_zero])
          refine wpAnyH_take (i := 11) (v := ?_) rfl (by kernel_rfl) (by kernel_rfl) (by kernel_rfl) (fun _ _ _ h => h) (Or.inl ⟨by rfl, ?_⟩) (by assumption) ?_
          rotate_left
          · (intro w hSw; clear hSw; go_simp) <;> with_reducible rfl
          (try simp only [Act.put, List.setIfInBounds_toArray, List.set_cons_zero, List.set_cons_succ, List.getElem_toArray, List.getElem_cons_succ, List.getElem_cons_zero])
          refine wpAnyH_take (i := 12) (v := ?_) rfl (by kernel_rfl) (by kernel_rfl) (by kernel_rfl) (fun _ _ _ h => h) (Or.inl ⟨by rfl, ?_⟩) (by assumption) ?_
          rotate_left
          · (intro w hSw; clear hSw; go_simp) <;> with_reducible rfl
          (try simp only [Act.put, List.setIfInBounds_toArray, List.set_cons_zero, List.set_cons_succ, List.getElem_toArray, List.getElem_cons_succ, List.getElem_cons_zero])
          refine wpAnyH_take (i := 13) (v := ?_) rfl (by kernel_rfl) (by kernel_rfl) (by kernel_rfl) (fun _ _ _ h => h) (Or.inl ⟨by rfl, ?_⟩) (by assumption) ?_
          rotate_left
          · (intro w hSw; clear hSw; go_simp) <;> with_reducible rfl
          (try simp only [Act.put, List.setIfInBounds_toArray, List.set_cons_zero, List.set_cons_succ, List.getElem_toArray, List.getElem_cons_succ, List.getElem_cons_zero])
          refine wpAnyH_take (i := 14) (v := ?_) rfl (by kernel_rfl) (by kernel_rfl) (by kernel_rfl) (fun _ _ _ h => h) (Or.inl ⟨by rfl, ?_⟩) (by assumption) ?_
          rotate_left
          · (intro w hSw; clear hSw; go_simp) <;> with_reducible rfl
          (try simp only [Act.put, List.setIfInBounds_toArray, List.set_cons_zero, List.set_cons_succ, List.getElem_toArray, List.getElem_cons_succ, List.getElem_cons_zero])
          refine wpAnyH_take (i := 15) (v := ?_) rfl (by kernel_rfl) (by kernel_rfl) (by kernel_rfl) (fun _ _ _ h => h) (Or.inl ⟨by rfl, ?_⟩) (by assumption) ?_
          rotate_left
          · (intro w hSw; (try dsimp only at hSw); go_split_ands; go_simp) <;> with_reducible rfl
          (try simp only [Act.put, List.setIfInBounds_toArray, List.set_cons_zero, List.set_cons_succ, List.getElem_toArray, List.getElem_cons_succ, List.getElem_cons_zero])
          refine wpAnyH_take (i := 16) (v := ?_) rfl (by kernel_rfl) (by kernel_rfl) (by kernel_rfl) (fun _ _ _ h => h) (Or.inl ⟨by rfl, ?_⟩) (by assumption) ?_
          rotate_left
          · (intro w hSw; clear hSw; go_simp) <;> with_reducible rfl
          (try simp only [Act.put, List.setIfInBounds_toArray, List.set_cons_zero, List.set_cons_succ, List.getElem_toArray, List.getElem_cons_succ, List.getElem_cons_zero])
          refine wpAnyH_take (i := 17) (v := ?_) rfl (by kernel_rfl) (by kernel_rfl) (by kernel_rfl) (fun _ _ _ h => h) (Or.inl ⟨by rfl, ?_⟩) (by assumption) ?_
          rotate_left
          · (intro w hSw; clear hSw; go_simp) <;> with_reducible rfl
          (try simp only [Act.put, List.setIfInBounds_toArray, List.set_cons_zero, List.set_cons_succ, List.getElem_toArray, List.getElem_cons_succ, List.getElem_cons_zero])
          refine wpAnyH_take (i := 18) (v := ?_) rfl (by kernel_rfl) (by kernel_rfl) (by kernel_rfl) (fun _ _ _ h => h) (Or.inl ⟨by rfl, ?_⟩) (by assumption) ?_
          rotate_left
          · (intro w hSw; clear hSw; go_simp) <;> with_reducible rfl
          (try simp only [Act.put, List.setIfInBounds_toArray, List.set_cons_zero, List.set_cons_succ, List.getElem_toArray, List.getElem_cons_succ, List.getElem_cons_zero])
          refine wpAnyH_take (i := 19) (v := undef) rfl (by kernel_rfl) (by kernel_rfl) (by kernel_rfl) (fun _ _ _ h => h) (Or.inr ⟨by rfl, rfl⟩) (by assumption) ?_
          (try simp only [Act.put, List.setIfInBounds_toArray, List.set_cons_zero, List.set_cons_succ, List.getElem_toArray, List.getElem_cons_succ, List.getElem_cons_zero])
          refine wpAnyH_take (i := 20) (v := undef) rfl (by kernel_rfl) (by kernel_rfl) (by kernel_rfl) (fun _ _ _ h => h) (Or.inr ⟨by rfl, rfl⟩) (by assumption) ?_
          (try simp only [Act.put, List.setIfInBounds_toArray, List.set_cons_zero, List.set_cons_succ, List.getElem_toArray, List.getElem_cons_succ, List.getElem_cons_zero])
          refine wpAnyH_take (i := 21) (v := undef) rfl (by kernel_rfl) (by kernel_rfl) (by kernel_rfl) (fun _ _ _ h => h) (Or.inr ⟨by rfl, rfl⟩) (by assumption) ?_
          (try simp only [Act.put, List.setIfInBounds_toArray, List.set_cons_zero, List.set_cons_succ, List.getElem_toArray, List.getElem_cons_succ, List.getElem_cons_zero])
          refine wpAnyH_take (i := 22) (v := undef) rfl (by kernel_rfl) (by kernel_rfl) (by kernel_rfl) (fun _ _ _ h => h) (Or.inr ⟨by rfl, rfl⟩) (by assumption) ?_
          (try simp only [Act.put, List.setIfInBounds_toArray, List.set_cons_zero, List.set_cons_succ, List.getElem_toArray, List.getElem_cons_succ, List.getElem_cons_zero])
          refine wpAnyH_take (i := 23) (v := undef) rfl (by kernel_rfl) (by kernel_rfl) (by kernel_rfl) (fun _ _ _ h => h) (Or.inr ⟨by rfl, rfl⟩) (by assumption) ?_
          (try simp only [Act.put, List.setIfInBounds_toArray, List.set_cons_zero, List.set_cons_succ, List.getElem_toArray, List.getElem_cons_succ, List.getElem_cons_zero])
          refine wpAnyH_take (i := 24) (v := undef) rfl (by kernel_rfl) (by kernel_rfl) (by kernel_rfl) (fun _ _ _ h => h) (Or.inr ⟨by rfl, rfl⟩) (by assumption) ?_
          (try simp only [Act.put, List.setIfInBounds_toArray, List.set_cons_zero, List.set_cons_succ, List.getElem_toArray, List.getElem_cons_succ, List.getElem_cons_zero])
          refine wpAnyH_take (i := 25) (v := undef) rfl (by kernel_rfl) (by kernel_rfl) (by kernel_rfl) (fun _ _ _ h => h) (Or.inr ⟨by rfl, rfl⟩) (by assumption) ?_
          (try simp only [Act.put, List.setIfInBounds_toArray, List.set_cons_zero, List.set_cons_succ, List.getElem_toArray, List.getElem_cons_succ, List.getElem_cons_zero])
          refine wpAnyH_take (i := 26) (v := ?_) rfl (by kernel_rfl) (by kernel_rfl) (by kernel_rfl) (fun _ _ _ h => h) (Or.inl ⟨by rfl, ?_⟩) (by assumption) ?_
          rotate_left
          · (intro w hSw; clear hSw; go_simp) <;> with_reducible rfl
          (try simp only [Act.put, List.setIfInBounds_toArray, List.set_cons_zero, List.set_cons_succ, List.getElem_toArray, List.getElem_cons_succ, List.getElem_cons_zero])
          refine wpAnyH_take (i := 27) (v := ?_) rfl (by kernel_rfl) (by kernel_rfl) (by kernel_rfl) (fun _ _ _ h => h) (Or.inl ⟨by rfl, ?_⟩) (by assumption) ?_
          rotate_left
          · (intro w hSw; clear hSw; go_simp) <;> with_reducible rfl
          (try simp only [Act.put, List.setIfInBounds_toArray, List.set_cons_zero, List.set_cons_succ, List.getElem_toArray, List.getElem_cons_succ, List.getElem_cons_zero])
          refine wpAnyH_take (i := 28) (v := undef) rfl (by kernel_rfl) (by kernel_rfl) (by kernel_rfl) (fun _ _ _ h => h) (Or.inr ⟨by rfl, rfl⟩) (by assumption) ?_
          (try simp only [Act.put, List.setIfInBounds_toArray, List.set_cons_zero, List.set_cons_succ, List.getElem_toArray, List.getElem_cons_succ, List.getElem_cons_zero])
          refine wpAnyH_take (i := 29) (v := undef) rfl (by kernel_rfl) (by kernel_rfl) (by kernel_rfl) (fun _ _ _ h => h) (Or.inr ⟨by rfl, rfl⟩) (by assumption) ?_
          (try simp only [Act.put, List.setIfInBounds_toArray, List.set_cons_zero, List.set_cons_succ, List.getElem_toArray, List.getElem_cons_succ, List.getElem_cons_zero])
          refine wpAnyH_take (i := 30) (v := undef) rfl (by kernel_rfl) (by kernel_rfl) (by kernel_rfl) (fun _ _ _ h => h) (Or.inr ⟨by rfl, rfl⟩) (by assumption) ?_
          (try simp only [Act.put, List.setIfInBounds_toArray, List.set_cons_zero, List.set_cons_succ, List.getElem_toArray, List.getElem_cons_succ, List.getElem_cons_zero])
          refine wpAnyH_take (i := 31) (v := undef) rfl (by kernel_rfl) (by kernel_rfl) (by kernel_rfl) (fun _ _ _ h => h) (Or.inr ⟨by rfl, rfl⟩) (by assumption) ?_
          (try simp only [Act.put, List.setIfInBounds_toArray, List.set_cons_zero, List.set_cons_succ, List.getElem_toArray, List.getElem_cons_succ, List.getElem_cons_zero])
          refine wpAnyH_take (i := 32) (v := undef) rfl (by kernel_rfl) (by kernel_rfl) (by kernel_rfl) (fun _ _ _ h => h) (Or.inr ⟨by rfl, rfl⟩) (by assumption) ?_
          (try simp only [Act.put, List.setIfInBounds_toArray, List.set_cons_zero, List.set_cons_succ, List.getElem_toArray, List.getElem_cons_succ, List.getElem_cons_zero])
          refine wpAnyH_take (i := 33) (v := undef) rfl (by kernel_rfl) (by kernel_rfl) (by kernel_rfl) (fun _ _ _ h => h) (Or.inr ⟨by rfl, rfl⟩) (by assumption) ?_
          (try simp only [Act.put, List.setIfInBounds_toArray, List.set_cons_zero, List.set_cons_succ, List.getElem_toArray, List.getElem_cons_succ, List.getElem_cons_zero])
          refine wpAnyH_take (i := 34) (v := undef) rfl (by kernel_rfl) (by kernel_rfl) (by kernel_rfl) (fun _ _ _ h => h) (Or.inr ⟨by rfl, rfl⟩) (by assumption) ?_
          (try simp only [Act.put, List.setIfInBounds_toArray, List.set_cons_zero, List.set_cons_succ, List.getElem_toArray, List.getElem_cons_succ, List.getElem_cons_zero])
          refine wpAnyH_take (i := 35) (v := ?_) rfl (by kernel_rfl) (by kernel_rfl) (by kernel_rfl) (fun _ _ _ h => h) (Or.inl ⟨by rfl, ?_⟩) (by assumption) ?_
          rotate_left
          · (intro w hSw; clear hSw; go_simp) <;> with_reducible rfl
          (try simp only [Act.put, List.setIfInBounds_toArray, List.set_cons_zero, List.set_cons_succ, List.getElem_toArray, List.getElem_cons_succ, List.getElem_cons_zero])
          refine wpAnyH_done (by kernel_rfl) ?_ _
          go_wp2_with fail
          refine bodyPost_ret (v := .tuple #[.slice none 0 0, .slice none 0 0, .slice none 0 0, .bool false]) (by simp [results, Tryd.results16, go_sem]) rfl ?_
          exact run_refused hBe
        have e13 : (op == 13) = false := beq_eq_false_iff_ne.2 h13
        have e22 : (op == 22) = false := beq_eq_false_iff_ne.2 h22
        have e21 : (op == 21) = false := beq_eq_false_iff_ne.2 h21
        have hO : OpU (⟨op, name, other, flag, perm, 0, da, dl, dc, off, wh, n⟩, bb) := ⟨hon.1, hon.2, h13, h21, h22⟩
        refine wp_region_held_drew (S := fun W => W.cell? ⟨p, 0, none⟩ = some (.pointer (some ⟨m1, 0, none⟩)) ∧ W.cell? ⟨p, 1, none⟩ = some (.pointer (some ⟨m2, 0, none⟩)) ∧ W.cell? ⟨sb, 0, none⟩ = some (.int .i64 op) ∧ W.cell? ⟨sb, 1, none⟩ = some (.string name) ∧ W.cell? ⟨sb, 2, none⟩ = some (.string other) ∧ W.cell? ⟨sb, 3, none⟩ = some (.int .i64 flag) ∧ W.cell? ⟨sb, 4, none⟩ = some (.int .i64 perm) ∧ W.cell? ⟨sb, 5, none⟩ = some (.int .i64 0) ∧ W.cell? ⟨sb, 6, none⟩ = some (.slice da dl dc) ∧ W.cell? ⟨sb, 7, none⟩ = some (.int .i64 off) ∧ W.cell? ⟨sb, 8, none⟩ = some (.int .i64 wh) ∧ W.cell? ⟨sb, 9, none⟩ = some (.int .i64 n)) (by kernel_rfl) (rc_cells hp0 hs0) (fun hHeld => ?_)
        refine wpAnyH_take (i := 0) (v := ?_) rfl (by kernel_rfl) (by kernel_rfl) (by kernel_rfl) (fun _ _ _ h => h) (Or.inl ⟨by rfl, ?_⟩) (by assumption) ?_
        rotate_left
        · (intro w hSw; (try dsimp only at hSw); go_split_ands; go_simp) <;> with_reducible rfl
        (try simp only [Act.put, List.setIfInBounds_toArray, List.set_cons_zero, List.set_cons_succ, List.getElem_toArray, List.getElem_cons_succ, List.getElem_cons_zero])
        refine wpAnyH_ready (rs := [1]) (by kernel_rfl) (by simp) ?_
        refine AllReadyH.cons rfl (fun K hK => ?_) AllReadyH.nil
        go_simp; go_at_call 27; refine (onh_yes ⟨op, name, other, flag, perm, 0, da, dl, dc, off, wh, n⟩ _ (by assumption)).mono ?_; rintro e X1 ⟨rfl, hb1'⟩; have hp1 := (hb1'.block _ (lt_of_heap hp0)).trans hp0; have hs1 := (hb1'.block _ (lt_of_heap hs0)).trans hs0; have hBa := hB0.trans (Below.mono (w := W0) (w' := X1) ⟨hb1'.os, hb1'.tape, hb1'.output, hb1'.size, hb1'.block⟩ hB0.size)
        refine hK.out _ _ (rc_cells hp1 hs1) (fun hHeld => ?_)
        clear hK K
        (try simp only [Act.put, List.setIfInBounds_toArray, List.set_cons_zero, List.set_cons_succ, List.getElem_toArray, List.getElem_cons_succ, List.getElem_cons_zero])
        refine wpAnyH_take (i := 2) (v := ?_) rfl (by kernel_rfl) (by kernel_rfl) (by kernel_rfl) (fun _ _ _ h => h) (Or.inl ⟨by rfl, ?_⟩) (by assumption) ?_
        rotate_left
        · (intro w hSw; clear hSw; go_simp) <;> with_reducible rfl
        (try simp only [Act.put, List.setIfInBounds_toArray, List.set_cons_zero, List.set_cons_succ, List.getElem_toArray, List.getElem_cons_succ, List.getElem_cons_zero])
        refine wpAnyH_take (i := 3) (v := ?_) rfl (by kernel_rfl) (by kernel_rfl) (by kernel_rfl) (fun _ _ _ h => h) (Or.inl ⟨by rfl, ?_⟩) (by assumption) ?_
        rotate_left
        · (intro w hSw; clear hSw; go_simp) <;> with_reducible rfl
        (try simp only [Act.put, List.setIfInBounds_toArray, List.set_cons_zero, List.set_cons_succ, List.getElem_toArray, List.getElem_cons_succ, List.getElem_cons_zero])
        refine wpAnyH_take (i := 4) (v := ?_) rfl (by kernel_rfl) (by kernel_rfl) (by kernel_rfl) (fun _ _ _ h => h) (Or.inl ⟨by rfl, ?_⟩) (by assumption) ?_
        rotate_left
        · (intro w hSw; clear hSw; go_simp) <;> with_reducible rfl
        (try simp only [Act.put, List.setIfInBounds_toArray, List.set_cons_zero, List.set_cons_succ, List.getElem_toArray, List.getElem_cons_succ, List.getElem_cons_zero])
        refine wpAnyH_take (i := 5) (v := ?_) rfl (by kernel_rfl) (by kernel_rfl) (by kernel_rfl) (fun _ _ _ h => h) (Or.inl ⟨by rfl, ?_⟩) (by assumption) ?_
        rotate_left
        · (intro w hSw; (try dsimp only at hSw); go_split_ands; go_simp) <;> with_reducible rfl
        (try simp only [Act.put, List.setIfInBounds_toArray, List.set_cons_zero, List.set_cons_succ, List.getElem_toArray, List.getElem_cons_succ, List.getElem_cons_zero])
        refine wpAnyH_take (i := 6) (v := ?_) rfl (by kernel_rfl) (by kernel_rfl) (by kernel_rfl) (fun _ _ _ h => h) (Or.inl ⟨by rfl, ?_⟩) (by assumption) ?_
        rotate_left
        · (intro w hSw; clear hSw; go_simp) <;> with_reducible rfl
        (try simp only [Act.put, List.setIfInBounds_toArray, List.set_cons_zero, List.set_cons_succ, List.getElem_toArray, List.getElem_cons_succ, List.getElem_cons_zero])
        refine wpAnyH_take (i := 7) (v := ?_) rfl (by kernel_rfl) (by kernel_rfl) (by kernel_rfl) (fun _ _ _ h => h) (Or.inl ⟨by rfl, ?_⟩) (by assumption) ?_
        rotate_left
        · (intro w hSw; clear hSw; go_simp) <;> with_reducible rfl
        (try simp only [Act.put, List.setIfInBounds_toArray, List.set_cons_zero, List.set_cons_succ, List.getElem_toArray, List.getElem_cons_succ, List.getElem_cons_zero])
        refine wpAnyH_take (i := 8) (v := ?_) rfl (by kernel_rfl) (by kernel_rfl) (by kernel_rfl) (fun _ _ _ h => h) (Or.inl ⟨by rfl, ?_⟩) (by assumption) ?_
        rotate_left
        · (intro w hSw; clear hSw; go_simp) <;> with_reducible rfl
        (try simp only [Act.put, List.setIfInBounds_toArray, List.set_cons_zero, List.set_cons_succ, List.getElem_toArray, List.getElem_cons_succ, List.getElem_cons_zero])
        refine wpAnyH_take (i := 9) (v := ?_) rfl (by kernel_rfl) (by kernel_rfl) (by kernel_rfl) (fun _ _ _ h => h) (Or.inl ⟨by rfl, ?_⟩) (by assumption) ?_
        rotate_left
        · (intro w hSw; clear hSw; go_simp) <;> with_reducible rfl
        (try simp only [Act.put, List.setIfInBounds_toArray, List.set_cons_zero, List.set_cons_succ, List.getElem_toArray, List.getElem_cons_succ, List.getElem_cons_zero])
        refine wpAnyH_take (i := 10) (v := ?_) rfl (by kernel_rfl) (by kernel_rfl) (by kernel_rfl) (fun _ _ _ h => h) (Or.inl ⟨by rfl, ?_⟩) (by assumption) ?_
        rotate_left
        · (intro w hSw; (try dsimp only at hSw); go_split_ands; go_simp) <;> with_reducible rfl
        (try simp only [Act.put, List.setIfInBounds_toArray, List.set_cons_zero, List.set_cons_succ, List.getElem_toArray, List.getElem_cons_succ, List.getElem_cons_zero])
        refine wpAnyH_take (i := 11) (v := ?_) rfl (by kernel_rfl) (by kernel_rfl) (by kernel_rfl) (fun _ _ _ h => h) (Or.inl ⟨by rfl, ?_⟩) (by assumption) ?_
        rotate_left
        · (intro w hSw; clear hSw; go_simp) <;> with_reducible rfl
        (try simp only [Act.put, List.setIfInBounds_toArray, List.set_cons_zero, List.set_cons_succ, List.getElem_toArray, List.getElem_cons_succ, List.getElem_cons_zero])
        refine wpAnyH_take (i := 12) (v := ?_) rfl (by kernel_rfl) (by kernel_rfl) (by kernel_rfl) (fun _ _ _ h => h) (Or.inl ⟨by rfl, ?_⟩) (by assumption) ?_
        rotate_left
        · (intro w hSw; clear hSw; go_simp) <;> with_reducible rfl
        (try simp only [Act.put, List.setIfInBounds_toArray, List.set_cons_zero, List.set_cons_succ, List.getElem_toArray, List.getElem_cons_succ, List.getElem_cons_zero])
        refine wpAnyH_take (i := 13) (v := ?_) rfl (by kernel_rfl) (by kernel_rfl) (by kernel_rfl) (fun _ _ _ h => h) (Or.inl ⟨by rfl, ?_⟩) (by assumption) ?_
        rotate_left
        · (intro w hSw; clear hSw; go_simp) <;> with_reducible rfl
        (try simp only [Act.put, List.setIfInBounds_toArray, List.set_cons_zero, List.set_cons_succ, List.getElem_toArray, List.getElem_cons_succ, List.getElem_cons_zero])
        refine wpAnyH_take (i := 14) (v := ?_) rfl (by kernel_rfl) (by kernel_rfl) (by kernel_rfl) (fun _ _ _ h => h) (Or.inl ⟨by rfl, ?_⟩) (by assumption) ?_
        rotate_left
        · (intro w hSw; clear hSw; go_simp) <;> with_reducible rfl
        (try simp only [Act.put, List.setIfInBounds_toArray, List.set_cons_zero, List.set_cons_succ, List.getElem_toArray, List.getElem_cons_succ, List.getElem_cons_zero])
        refine wpAnyH_take (i := 15) (v := ?_) rfl (by kernel_rfl) (by kernel_rfl) (by kernel_rfl) (fun _ _ _ h => h) (Or.inl ⟨by rfl, ?_⟩) (by assumption) ?_
        rotate_left
        · (intro w hSw; (try dsimp only at hSw); go_split_ands; go_simp) <;> with_reducible rfl
        (try simp only [Act.put, List.setIfInBounds_toArray, List.set_cons_zero, List.set_cons_succ, List.getElem_toArray, List.getElem_cons_succ, List.getElem_cons_zero])
        refine wpAnyH_take (i := 16) (v := ?_) rfl (by kernel_rfl) (by kernel_rfl) (by kernel_rfl) (fun _ _ _ h => h) (Or.inl ⟨by rfl, ?_⟩) (by assumption) ?_
        rotate_left
        · (intro w hSw; clear hSw; go_simp) <;> with_reducible rfl
        (try simp only [Act.put, List.setIfInBounds_toArray, List.set_cons_zero, List.set_cons_succ, List.getElem_toArray, List.getElem_cons_succ, List.getElem_cons_zero])
        refine wpAnyH_take (i := 17) (v := ?_) rfl (by kernel_rfl) (by kernel_rfl) (by kernel_rfl) (fun _ _ _ h => h) (Or.inl ⟨by rfl, ?_⟩) (by assumption) ?_
        rotate_left
        · (intro w hSw; clear hSw; go_simp) <;> with_reducible rfl
        (try simp only [Act.put, List.setIfInBounds_toArray, List.set_cons_zero, List.set_cons_succ, List.getElem_toArray, List.getElem_cons_succ, List.getElem_cons_zero])
        refine wpAnyH_take (i := 18) (v := ?_) rfl (by kernel_rfl) (by kernel_rfl) (by kernel_rfl) (fun _ _ _ h => h) (Or.inl ⟨by rfl, ?_⟩) (by assumption) ?_
        rotate_left
        · (intro w hSw; clear hSw; go_simp) <;> with_reducible rfl
        (try simp only [Act.put, List.setIfInBounds_toArray, List.set_cons_zero, List.set_cons_succ, List.getElem_toArray, List.getElem_cons_succ, List.getElem_cons_zero])
        refine wpAnyH_take (i := 19) (v := ?_) rfl (by kernel_rfl) (by kernel_rfl) (by kernel_rfl) (fun _ _ _ h => h) (Or.inl ⟨by rfl, ?_⟩) (by assumption) ?_
        rotate_left
        · (intro w hSw; clear hSw; go_simp) <;> with_reducible rfl
        (try simp only [Act.put, List.setIfInBounds_toArray, List.set_cons_zero, List.set_cons_succ, List.getElem_toArray, List.getElem_cons_succ, List.getElem_cons_zero])
        refine wpAnyH_take (i := 20) (v := ?_) rfl (by kernel_rfl) (by kernel_rfl) (by kernel_rfl) (fun _ _ _ h => h) (Or.inl ⟨by rfl, ?_⟩) (by assumption) ?_
        rotate_left
        · (intro w hSw; clear hSw; go_simp) <;> with_reducible rfl
        (try simp only [Act.put, List.setIfInBounds_toArray, List.set_cons_zero, List.set_cons_succ, List.getElem_toArray, List.getElem_cons_succ, List.getElem_cons_zero])
        refine wpAnyH_take (i := 21) (v := ?_) rfl (by kernel_rfl) (by kernel_rfl) (by kernel_rfl) (fun _ _ _ h => h) (Or.inl ⟨by rfl, ?_⟩) (by assumption) ?_
        rotate_left
        · (intro w hSw; clear hSw; go_simp) <;> with_reducible rfl
        (try simp only [Act.put, List.setIfInBounds_toArray, List.set_cons_zero, List.set_cons_succ, List.getElem_toArray, List.getElem_cons_succ, List.getElem_cons_zero])
        refine wpAnyH_take (i := 22) (v := ?_) rfl (by kernel_rfl) (by kernel_rfl) (by kernel_rfl) (fun _ _ _ h => h) (Or.inl ⟨by rfl, ?_⟩) (by assumption) ?_
        rotate_left
        · (intro w hSw; (try dsimp only at hSw); go_split_ands; go_simp) <;> with_reducible rfl
        (try simp only [Act.put, List.setIfInBounds_toArray, List.set_cons_zero, List.set_cons_succ, List.getElem_toArray, List.getElem_cons_succ, List.getElem_cons_zero])
        refine wpAnyH_take (i := 23) (v := ?_) rfl (by kernel_rfl) (by kernel_rfl) (by kernel_rfl) (fun _ _ _ h => h) (Or.inl ⟨by rfl, ?_⟩) (by assumption) ?_
        rotate_left
        · (intro w hSw; (try dsimp only at hSw); go_split_ands; go_simp) <;> with_reducible rfl
        (try simp only [Act.put, List.setIfInBounds_toArray, List.set_cons_zero, List.set_cons_succ, List.getElem_toArray, List.getElem_cons_succ, List.getElem_cons_zero])
        refine wpAnyH_ready (rs := [24]) (by kernel_rfl) (by simp) ?_
        refine AllReadyH.cons rfl (fun K hK => ?_) AllReadyH.nil
        go_simp; go_at_call 28; have hU1 := HU0.out.below (w' := X1) ⟨hb1'.os, hb1'.tape, hb1'.output, hb1'.size, hb1'.block⟩; obtain ⟨t1, hu1⟩ := hU1.base; refine (um_says w.heap.size m1 h1 dv1 _ t1 (⟨op, name, other, flag, perm, 0, da, dl, dc, off, wh, n⟩, bb) _ hu1 rfl hO).mono ?_; rintro e X2 ⟨r1, rfl, hb2', hr1⟩; have hp2 := (hb2'.block _ (lt_of_heap hp1)).trans hp1; have hs2 := (hb2'.block _ (lt_of_heap hs1)).trans hs1; have hBb := hBa.trans (hb2'.mono hBa.size); have hU2 := hU1.below hb2'; clear hU1 hu1
        refine hK.out _ _ (rc_cells hp2 hs2) (fun hHeld => ?_)
        clear hK K
        (try simp only [Act.put, List.setIfInBounds_toArray, List.set_cons_zero, List.set_cons_succ, List.getElem_toArray, List.getElem_cons_succ, List.getElem_cons_zero])
        cases r1 with
        | false =>
          have hBe : Below w.heap.size w X2 := hBb
          refine wpAnyH_take (i := 25) (v := ?_) rfl (by kernel_rfl) (by kernel_rfl) (by kernel_rfl) (fun _ _ _ h => h) (Or.inl ⟨by rfl, ?_⟩) (by assumption) ?_
          rotate_left
          · (intro w hSw; clear hSw; go_simp) <;> with_reducible rfl
          (try simp only [Act.put, List.setIfInBounds_toArray, List.set_cons_zero, List.set_cons_succ, List.getElem_toArray, List.getElem_cons_succ, List.getElem_cons_zero])
          refine wpAnyH_take (i := 26) (v := ?_) rfl (by kernel_rfl) (by kernel_rfl) (by kernel_rfl) (fun _ _ _ h => h) (Or.inl ⟨by rfl, ?_⟩) (by assumption) ?_
          rotate_left
          · (intro w hSw; clear hSw; go_simp) <;> with_reducible rfl
          (try simp only [Act.put, List.setIfInBounds_toArray, List.set_cons_zero, List.set_cons_succ, List.getElem_toArray, List.getElem_cons_succ, List.getElem_cons_zero])
          refine wpAnyH_take (i := 27) (v := ?_) rfl (by kernel_rfl) (by kernel_rfl) (by kernel_rfl) (fun _ _ _ h => h) (Or.inl ⟨by rfl, ?_⟩) (by assumption) ?_
          rotate_left
          · (intro w hSw; clear hSw; go_simp) <;> with_reducible rfl
          (try simp only [Act.put, List.setIfInBounds_toArray, List.set_cons_zero, List.set_cons_succ, List.getElem_toArray, List.getElem_cons_succ, List.getElem_cons_zero])
          refine wpAnyH_take (i := 28) (v := undef) rfl (by kernel_rfl) (by kernel_rfl) (by kernel_rfl) (fun _ _ _ h => h) (Or.inr ⟨by rfl, rfl⟩) (by assumption) ?_
          (try simp only [Act.put, List.setIfInBounds_toArray, List.set_cons_zero, List.set_cons_succ, List.getElem_toArray, List.getElem_cons_succ, List.getElem_cons_zero])
          refine wpAnyH_take (i := 29) (v := undef) rfl (by kernel_rfl) (by kernel_rfl) (by kernel_rfl) (fun _ _ _ h => h) (Or.inr ⟨by rfl, rfl⟩) (by assumption) ?_
          (try simp only [Act.put, List.setIfInBounds_toArray, List.set_cons_zero, List.set_cons_succ, List.getElem_toArray, List.getElem_cons_succ, List.getElem_cons_zero])
          refine wpAnyH_take (i := 30) (v := undef) rfl (by kernel_rfl) (by kernel_rfl) (by kernel_rfl) (fun _ _ _ h => h) (Or.inr ⟨by rfl, rfl⟩) (by assumption) ?_
          (try simp only [Act.put, List.setIfInBounds_toArray, List.set_cons_zero, List.set_cons_succ, List.getElem_toArray, List.getElem_cons_succ, List.getElem_cons_zero])
          refine wpAnyH_take (i := 31) (v := undef) rfl (by kernel_rfl) (by kernel_rfl) (by kernel_rfl) (fun _ _ _ h => h) (Or.inr ⟨by rfl, rfl⟩) (by assumption) ?_
          (try simp only [Act.put, List.setIfInBounds_toArray, List.set_cons_zero, List.set_cons_succ, List.getElem_toArray, List.getElem_cons_succ, List.getElem_cons_zero])
          refine wpAnyH_take (i := 32) (v := undef) rfl (by kernel_rfl) (by kernel_rfl) (by kernel_rfl) (fun _ _ _ h => h) (Or.inr ⟨by rfl, rfl⟩) (by assumption) ?_
          (try simp only [Act.put, List.setIfInBounds_toArray, List.set_cons_zero, List.set_cons_succ, List.getElem_toArray, List.getElem_cons_succ, List.getElem_cons_zero])
          refine wpAnyH_take (i := 33) (v := undef) rfl (by kernel_rfl) (by kernel_rfl) (by kernel_rfl) (fun _ _ _ h => h) (Or.inr ⟨by rfl, rfl⟩) (by assumption) ?_
          (try simp only [Act.put, List.setIfInBounds_toArray, List.set_cons_zero, List.set_cons_succ, List.getElem_toArray, List.getElem_cons_succ, List.getElem_cons_zero])
          refine wpAnyH_take (i := 34) (v := undef) rfl (by kernel_rfl) (by kernel_rfl) (by kernel_rfl) (fun _ _ _ h => h) (Or.inr ⟨by rfl, rfl⟩) (by assumption) ?_
          (try simp only [Act.put, List.setIfInBounds_toArray, List.set_cons_zero, List.set_cons_succ, List.getElem_toArray, List.getElem_cons_succ, List.getElem_cons_zero])
          refine wpAnyH_take (i := 35) (v := ?_) rfl (by kernel_rfl) (by kernel_rfl) (by kernel_rfl) (fun _ _ _ h => h) (Or.inl ⟨by rfl, ?_⟩) (by assumption) ?_
          rotate_left
          · (intro w hSw; clear hSw; go_simp) <;> with_reducible rfl
          (try simp only [Act.put, List.setIfInBounds_toArray, List.set_cons_zero, List.set_cons_succ, List.getElem_toArray, List.getElem_cons_succ, List.getElem_cons_zero])
          refine wpAnyH_done (by kernel_rfl) ?_ _
          go_wp2_with fail
          refine bodyPost_ret (v := .tuple #[.slice none 0 0, .slice none 0 0, .slice none 0 0, .bool false]) (by simp [results, Tryd.results16, go_sem]) rfl ?_
          exact run_refused hBe
        | true =>
          refine wpAnyH_take (i := 25) (v := ?_) rfl (by kernel_rfl) (by kernel_rfl) (by kernel_rfl) (fun _ _ _ h => h) (Or.inl ⟨by rfl, ?_⟩) (by assumption) ?_
          rotate_left
          · (intro w hSw; clear hSw; go_simp) <;> with_reducible rfl
          (try simp only [Act.put, List.setIfInBounds_toArray, List.set_cons_zero, List.set_cons_succ, List.getElem_toArray, List.getElem_cons_succ, List.getElem_cons_zero])
          refine wpAnyH_take (i := 26) (v := ?_) rfl (by kernel_rfl) (by kernel_rfl) (by kernel_rfl) (fun _ _ _ h => h) (Or.inl ⟨by rfl, ?_⟩) (by assumption) ?_
          rotate_left
          · (intro w hSw; clear hSw; go_simp) <;> with_reducible rfl
          (try simp only [Act.put, List.setIfInBounds_toArray, List.set_cons_zero, List.set_cons_succ, List.getElem_toArray, List.getElem_cons_succ, List.getElem_cons_zero])
          refine wpAnyH_take (i := 27) (v := ?_) rfl (by kernel_rfl) (by kernel_rfl) (by kernel_rfl) (fun _ _ _ h => h) (Or.inl ⟨by rfl, ?_⟩) (by assumption) ?_
          rotate_left
          · (intro w hSw; clear hSw; go_simp) <;> with_reducible rfl
          (try simp only [Act.put, List.setIfInBounds_toArray, List.set_cons_zero, List.set_cons_succ, List.getElem_toArray, List.getElem_cons_succ, List.getElem_cons_zero])
          refine wpAnyH_take (i := 28) (v := ?_) rfl (by kernel_rfl) (by kernel_rfl) (by kernel_rfl) (fun _ _ _ h => h) (Or.inl ⟨by rfl, ?_⟩) (by assumption) ?_
          rotate_left
          · (intro w hSw; clear hSw; go_simp) <;> with_reducible rfl
          (try simp only [Act.put, List.setIfInBounds_toArray, List.set_cons_zero, List.set_cons_succ, List.getElem_toArray, List.getElem_cons_succ, List.getElem_cons_zero])
          refine wpAnyH_take (i := 29) (v := ?_) rfl (by kernel_rfl) (by kernel_rfl) (by kernel_rfl) (fun _ _ _ h => h) (Or.inl ⟨by rfl, ?_⟩) (by assumption) ?_
          rotate_left
          · (intro w hSw; clear hSw; go_simp) <;> with_reducible rfl
          (try simp only [Act.put, List.setIfInBounds_toArray, List.set_cons_zero, List.set_cons_succ, List.getElem_toArray, List.getElem_cons_succ, List.getElem_cons_zero])
          refine wpAnyH_take (i := 30) (v := ?_) rfl (by kernel_rfl) (by kernel_rfl) (by kernel_rfl) (fun _ _ _ h => h) (Or.inl ⟨by rfl, ?_⟩) (by assumption) ?_
          rotate_left
          · (intro w hSw; clear hSw; go_simp) <;> with_reducible rfl
          (try simp only [Act.put, List.setIfInBounds_toArray, List.set_cons_zero, List.set_cons_succ, List.getElem_toArray, List.getElem_cons_succ, List.getElem_cons_zero])
          refine wpAnyH_take (i := 31) (v := ?_) rfl (by kernel_rfl) (by kernel_rfl) (by kernel_rfl) (fun _ _ _ h => h) (Or.inl ⟨by rfl, ?_⟩) (by assumption) ?_
          rotate_left
          · (intro w hSw; (try dsimp only at hSw); go_split_ands; go_simp) <;> with_reducible rfl
          (try simp only [Act.put, List.setIfInBounds_toArray, List.set_cons_zero, List.set_cons_succ, List.getElem_toArray, List.getElem_cons_succ, List.getElem_cons_zero])
          refine wpAnyH_take (i := 32) (v := ?_) rfl (by kernel_rfl) (by kernel_rfl) (by kernel_rfl) (fun _ _ _ h => h) (Or.inl ⟨by rfl, ?_⟩) (by assumption) ?_
          rotate_left
          · (intro w hSw; (try dsimp only at hSw); go_split_ands; go_simp) <;> with_reducible rfl
          (try simp only [Act.put, List.setIfInBounds_toArray, List.set_cons_zero, List.set_cons_succ, List.getElem_toArray, List.getElem_cons_succ, List.getElem_cons_zero])
          refine wpAnyH_ready (rs := [33]) (by kernel_rfl) (by simp) ?_
          refine AllReadyH.cons rfl (fun K hK => ?_) AllReadyH.nil
          go_simp; go_at_call 28; obtain ⟨t2, hu2⟩ := hU2.layer; refine (um_says w.heap.size m2 h2 dv2 _ t2 (⟨op, name, other, flag, perm, 0, da, dl, dc, off, wh, n⟩, bb) _ hu2 rfl hO).mono ?_; rintro e X3 ⟨r2, rfl, hb3', hr2⟩; have hp3 := (hb3'.block _ (lt_of_heap hp2)).trans hp2; have hs3 := (hb3'.block _ (lt_of_heap hs2)).trans hs2; have hBc := hBb.trans (hb3'.mono hBb.size); have hU3 := hU2.below hb3'; clear hu2
          refine hK.out _ _ (rc_cells hp3 hs3) (fun hHeld => ?_)
          clear hK K
          (try simp only [Act.put, List.setIfInBounds_toArray, List.set_cons_zero, List.set_cons_succ, List.getElem_toArray, List.getElem_cons_succ, List.getElem_cons_zero])
          cases r2 with
          | false =>
            have hBe : Below w.heap.size w X3 := hBc
            refine wpAnyH_take (i := 34) (v := ?_) rfl (by kernel_rfl) (by kernel_rfl) (by kernel_rfl) (fun _ _ _ h => h) (Or.inl ⟨by rfl, ?_⟩) (by assumption) ?_
            rotate_left
            · (intro w hSw; clear hSw; go_simp) <;> with_reducible rfl
            (try simp only [Act.put, List.setIfInBounds_toArray, List.set_cons_zero, List.set_cons_succ, List.getElem_toArray, List.getElem_cons_succ, List.getElem_cons_zero])
            refine wpAnyH_take (i := 35) (v := ?_) rfl (by kernel_rfl) (by kernel_rfl) (by kernel_rfl) (fun _ _ _ h => h) (Or.inl ⟨by rfl, ?_⟩) (by assumption) ?_
            rotate_left
            · (intro w hSw; clear hSw; go_simp) <;> with_reducible rfl
            (try simp only [Act.put, List.setIfInBounds_toArray, List.set_cons_zero, List.set_cons_succ, List.getElem_toArray, List.getElem_cons_succ, List.getElem_cons_zero])
            refine wpAnyH_done (by kernel_rfl) ?_ _
            go_wp2_with fail
            refine bodyPost_ret (v := .tuple #[.slice none 0 0, .slice none 0 0, .slice none 0 0, .bool false]) (by simp [results, Tryd.results16, go_sem]) rfl ?_
            exact run_refused hBe
          | true =>
            refine wpAnyH_take (i := 34) (v := ?_) rfl (by kernel_rfl) (by kernel_rfl) (by kernel_rfl) (fun _ _ _ h => h) (Or.inl ⟨by rfl, ?_⟩) (by assumption) ?_
            rotate_left
            · (intro w hSw; clear hSw; go_simp) <;> with_reducible rfl
            (try simp only [Act.put, List.setIfInBounds_toArray, List.set_cons_zero, List.set_cons_succ, List.getElem_toArray, List.getElem_cons_succ, List.getElem_cons_zero])
            refine wpAnyH_take (i := 35) (v := ?_) rfl (by kernel_rfl) (by kernel_rfl) (by kernel_rfl) (fun _ _ _ h => h) (Or.inl ⟨by rfl, ?_⟩) (by assumption) ?_
            rotate_left
            · (intro w hSw; clear hSw; go_simp) <;> with_reducible rfl
            (try simp only [Act.put, List.setIfInBounds_toArray, List.set_cons_zero, List.set_cons_succ, List.getElem_toArray, List.getElem_cons_succ, List.getElem_cons_zero])
            refine wpAnyH_done (by kernel_rfl) ?_ _
            clear hHeld
            have hsp1 := (hr1 rfl).weak
            have hsp2 := (hr2 rfl).weak
            have hk1 : (L.take k).length = k := by simp; omega
            have hX3 : BytesIn X3 da dl dc bb := HBK.out.below hBc
            have hbw : ∀ W : World, Wrote (Both h1 h2 dv1 dv2) X3 W → BytesIn W da dl dc bb := fun W hW => bytes_old HBK.out hX3 hW HLOW.out
            have hdl : (doF (runP (⟨0, false, ro, lay⟩, ⟨0, false, ro, bas⟩) (L.take k)).1 (⟨op, name, other, flag, perm, 0, da, dl, dc, off, wh, n⟩, bb)).1.data.length ≤ 4096 := doF_data (hr2 rfl) hO
            have hca := cache_any w.heap.size p m1 h1 m2 h2 ob k dv1 dv2 _ _ (⟨op, name, other, flag, perm, 0, da, dl, dc, off, wh, n⟩, bb) X3 hU3 rfl hO hsp1 hsp2 HG.out.2 HG.out.1 (by omega) hX3 hBc.size hdl hbw
            have hO3 : OwnRow (fun (_ : Unit) _ => True) tAns 6 X3 w.heap.size u13 (List.replicate k ()) := row_below (row_below HO13.out HBW0.out) (show Below W0.heap.size W0 X3 from (Below.mono (w := W0) (w' := X1) ⟨hb1'.os, hb1'.tape, hb1'.output, hb1'.size, hb1'.block⟩ (Nat.le_refl _)).trans ((hb2'.trans (hb3'.mono hb2'.size)).mono hb1'.size))
            have hrw := fun W (hW : Wrote (Both h1 h2 dv1 dv2) X3 W) => row_both hO3 hU3 hW
            have HSP := Lib.hid (show SpkP _ _ ∧ SpkP _ _ from ⟨hr2 rfl, hr1 rfl⟩)
            have HRW := Lib.hid hrw
            have HBc := Lib.hid hBc
            unfold Stp.val at hca
            simp only at hca
            have HCA := Lib.hid hca
            clear hca hrw hBc hX3 hbw hdl hO3 hsp1 hsp2 hr1 hr2 hU3 hU2 hb1' hb2' hb3' hBb hBa hB0 hp0 hp1 hp2 hs0 hs1 hs2 e13 e22 e21
            have sc := rc_cells hp3 hs3
            obtain ⟨_, _, s0, s1', s2', s3', s4', s5', s6', s7', s8', s9'⟩ := sc
            clear hp3 hs3
            have HCA0 := HCA.out
            obtain ⟨D, hD⟩ : ∃ D, doF (runP (⟨0, false, ro, lay⟩, ⟨0, false, ro, bas⟩) (L.take k)).1 (⟨op, name, other, flag, perm, 0, da, dl, dc, off, wh, n⟩, bb) = D := ⟨_, rfl⟩
            rw [hD] at HCA0
            have HD := Lib.hid hD
            clear HCA hD
            have HCA := Lib.hid HCA0
            clear HCA0
            go_wp2_with (first
              | (at_builtin; refine OwnRow.append (w0 := w) (R := fun (_ : Unit) _ => True) w.heap.size rfl (.tmp 70) (.tmp 74) 36 42 (.agg #[.int .i64 0, .int .i64 0, .int .i64 0, .slice none 0 0, .slice none 0 0, .slice none 0 0]) 6 96 rfl Tryd.underlying36 info42' rfl (by decide) (by decide) u13 (List.replicate k ()) () [.int .i64 D.1.e, .int .i64 D.1.n, .int .i64 D.1.off, .slice A4 D.1.data.length c4, .slice none 0 0, .slice none 0 0] rfl (by simp [Act.eval]) trivial rfl (by intro u hu; simp at hu; rcases hu with rfl | rfl | rfl | rfl | rfl <;> rfl) HO4.out HB4.out HB4.out.size (by simp; omega) ?_; intro v5 w5 hO5 hB5 hg5 hat5)
              | (go_at_call 29; refine HCA.out.mono ?_; rintro e X4 ⟨v4, rfl, ho4, hU4, hW4⟩; obtain ⟨A4, c4, rfl⟩ := own_slice ho4; have HB4 := Lib.hid (HBc.out.trans (hW4.below HBc.out.size (fun j hj hs => by have := HLOW.out j hs; omega))); have HO4 := Lib.hid (HRW.out _ hW4); have HU4 := Lib.hid hU4; clear ho4 hU4 hW4; simp only [ansVal]))
            go_roundw
            case rel =>
              refine ⟨k + 1, by omega, by go_num, ?_, ?_, ?_, hB5⟩
              · rw [HER.out]
                have hu4 := HU4.out
                rw [← HD.out] at hu4
                rw [step_h (h' := 0)]
                exact up_grown hu4 hg5 (fun j hj => row_typed HO4.out j hj)
              · rw [HTK.out]
                exact spkAll_snoc HSPK.out (spk_h HSP.out.1) (spk_h HSP.out.2) (op_h hO)
              · rw [List.replicate_succ']
                exact hO5
            case measure => simp [intOf]; omega
    · obtain rfl : k = L.length := by omega
      rw [List.take_length] at hspk
      obtain ⟨t1, hu1⟩ := hU.base
      obtain ⟨t2, hu2⟩ := hU.layer
      obtain ⟨nv1, av1, mb1, nm1, F1, names1, ats1, hM1, _⟩ := hu1.mem
      obtain ⟨nv2, av2, mb2, nm2, F2, names2, ats2, hM2, _⟩ := hu2.mem
      obtain ⟨nb1, cap1, v1, rfl, hc1, _, ⟨_, _, z1, _, _⟩, ho1, _, _⟩ := NodesIs.at hu1.nodes (i := 1) (by simp)
      obtain ⟨nb2, cap2, v2, rfl, hc2, _, ⟨_, _, z2, _, _⟩, ho2, _, _⟩ := NodesIs.at hu2.nodes (i := 1) (by simp)
      obtain ⟨Aa, ca, rfl⟩ := own_slice ho1
      obtain ⟨Ab, cb, rfl⟩ := own_slice ho2
      have hpb := hU.pair.blk
      have p0 := (cell_of hpb 0).trans rfl
      have p1 := (cell_of hpb 1).trans rfl
      have m1c := (cell_of hM1 2).trans rfl
      have m2c := (cell_of hM2 2).trans rfl
      obtain ⟨inner, ho13, _⟩ := hO13
      obtain ⟨Ac, cc, rfl⟩ := own_slice ho13
      have HSPK := Lib.hid hspk
      clear hspk hU hu1 hu2 hM1 hM2 ho1 ho2 hpb ho13
      go_upto_region 11 with fail
      go_quiet (fail)
      go_wp2_with fail
      refine bodyPost_ret (v := .tuple #[.slice Ac (List.replicate L.length ()).length cc, .slice Ab (runP (⟨0, false, ro, lay⟩, ⟨0, false, ro, bas⟩) L).1.bs.length cb, .slice Aa (runP (⟨0, false, ro, lay⟩, ⟨0, false, ro, bas⟩) L).2.bs.length ca, .bool true]) (by simp [results, Tryd.results16, go_sem, fileN]) rfl ?_
      exact ⟨_, _, _, _, _, _, _, _, _, _, rfl, (fun _ => HSPK.out), below_drewN hB _⟩
end Sb
end Go.Proofs.YtnkhfdnahnphdaaDoor
end
