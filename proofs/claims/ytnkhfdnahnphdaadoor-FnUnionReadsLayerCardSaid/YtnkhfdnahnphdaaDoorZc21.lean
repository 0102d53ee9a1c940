/- Parts of the proof, merged: Sw, Sq, Ra, Sr. -/
import Derived.Test.YtnkhfdnahnphdaaDoorZc04
import Derived.Test.YtnkhfdnahnphdaaDoorZc14
import Derived.Test.YtnkhfdnahnphdaaDoorZc18
import Derived.Test.YtnkhfdnahnphdaaDoorZc20
section
namespace Go.Proofs.YtnkhfdnahnphdaaDoor
open Go.ChangeShapes Go.WideShapes Go.ChangeAt Go.RowKit Go.Rd Go.Maps
open Go.Proofs.YtnkhfdnahnphdaaDoorW.PrintWords Go.Proofs.YtnkhfdnahnphdaaDoorW.PrintLast Go.Proofs.YtnkhfdnahnphdaaDoorW.PrintMore
set_option linter.unusedVariables false
set_option linter.unusedSimpArgs false
set_option linter.unusedSectionVars false
namespace Sb
section
variable (B p m1 hb1 m2 hb2 ob k : Nat) (dv1 dv2 : Value) (s1 s2 : St) (x : Sx) (w : World) (hU : UP w B p m1 hb1 m2 hb2 ob dv1 dv2 s1 s2) (hx : x.1.h = 0) (hO : OpU x) (hl : x.1.op = 19 ∨ x.1.op = 20) (hS1 : SpkW s1 x) (hS2 : SpkW s2 x) (hG1 : Good k s1) (hG2 : Good k s2) (hk : k ≤ 1000000) (hb : BytesIn w x.1.da x.1.dl x.1.dc x.2) (hB : B ≤ w.heap.size) (hbw : ∀ W : World, Wrote (Both hb1 hb2 dv1 dv2) w W → BytesIn W x.1.da x.1.dl x.1.dc x.2)
include hU hx hO hl hS1 hS2 hG1 hG2 hk hb hB hbw
set_option maxRecDepth 100000 in
set_option maxHeartbeats 4000000 in
theorem on_list : Calls Tryd.prog 52 #[.pointer (some ⟨p, 0, none⟩), x.1.val] w fun e w' => ∃ v, e = .returned (ansVal 8 0 0 v) ∧ w'.ownsRow w.heap.size 5 1 v 0 [] ∧ UP w' B p m1 hb1 m2 hb2 ob dv1 dv2 s1 s2 ∧ Wrote (Both hb1 hb2 dv1 dv2) w w' := by
  have hcall : ∀ (W : World), Below w.heap.size w W → Calls Tryd.prog 81 #[.pointer (some ⟨p, 0, none⟩), x.1.val] W (ListPost w W B p m1 hb1 m2 hb2 ob dv1 dv2 s1 s2) := fun W hb0 => (woven_list B p m1 hb1 m2 hb2 ob k dv1 dv2 s1 s2 x W (hU.below hb0) hx hO hl hS1 hS2 hG1 hG2 hk (hb.below hb0) (Nat.le_trans hB hb0.size) (fun W' hW' => hbw W' ((Wrote.of_below hb0).trans hW'))).mono (by
    rintro e w' ⟨v, rfl, ho, hu, hw⟩
    obtain ⟨A, c, rfl⟩ := own_slice ho
    exact ⟨A, c, rfl, row_le ho hb0.size, hu, (Wrote.of_below hb0).trans hw, keep_of hw (both_soft (hU.below hb0))⟩)
  obtain ⟨⟨op, name, other, flag, perm, hh, da, dl, dc, off, wh, n⟩, bb⟩ := x
  simp only at hx hl
  subst hx
  unfold Stp.val at hcall ⊢
  simp only at hcall ⊢
  have HC := Lib.hid hcall
  have HU := Lib.hid hU
  clear hcall hU hS1 hS2 hG1 hG2 hb hbw hO
  go_enter Tryd.func52, Tryd.ntmps52
  go_upto_region 1 with fail
  refine world_as (fun W => Below w.heap.size w W ∧ W.heap[w.heap.size]? = some (.cells #[.int .i64 op, .string name, .string other, .int .i64 flag, .int .i64 perm, .int .i64 0, .slice da dl dc, .int .i64 off, .int .i64 wh, .int .i64 n] tStep (0, 0)) ∧ W.heap[w.heap.size + 1]? = some (.cells #[.int .i64 0, .int .i64 0, .int .i64 0, .slice none 0 0, .slice none 0 0, .slice none 0 0] tAns (0, 0))) ⟨two_below _ _ _, two_old _ _ _, two_new _ _ _⟩ (fun W hW => ?_)
  obtain ⟨hB0, hs0, ha0⟩ := hW
  have hp0 := (HU.out.below hB0).pair.blk
  have hlook := of_look (HU.out.below hB0).pair.of_
  have p0 := (cell_of hp0 0).trans rfl
  have p1 := (cell_of hp0 1).trans rfl
  have p2 := (cell_of hp0 2).trans rfl
  have s0 := (cell_of hs0 0).trans rfl
  have s1' := (cell_of hs0 1).trans rfl
  have s2' := (cell_of hs0 2).trans rfl
  have s3 := (cell_of hs0 3).trans rfl
  have s4 := (cell_of hs0 4).trans rfl
  have s5 := (cell_of hs0 5).trans rfl
  have s6 := (cell_of hs0 6).trans rfl
  have s7 := (cell_of hs0 7).trans rfl
  have s8 := (cell_of hs0 8).trans rfl
  have s9 := (cell_of hs0 9).trans rfl
  have HB0 := Lib.hid hB0
  have HA0 := Lib.hid ha0
  obtain ⟨sb, hsb⟩ : ∃ sb, w.heap.size = sb := ⟨_, rfl⟩
  rw [hsb] at s0 s1' s2' s3 s4 s5 s6 s7 s8 s9 HA0 ⊢
  have HSB := Lib.hid hsb
  clear hB0 hs0 ha0 hp0 hsb
  go_upto_region 1 with fail
  go_quiet (fail)
  rcases hl with e19 | e20
  · subst e19
    go_wp2_with (go_at_call 81; refine (HC.out _ (pw_below_drewN HB0.out _)).mono ?_; rintro e w5 ⟨A, d, rfl, ho5, hu5, hw5, hk5⟩; have hans5 := hk5 _ _ _ _ (drewN_keeps HA0.out _) nsAns; obtain ⟨⟨b0, b1, b2, b3, b4, b5⟩, q0, q1, q2, q3, q4, q5⟩ := cells6 hans5; simp only [ansVal]; have hct : CutT w w5 B p m1 hb1 m2 hb2 ob dv1 dv2 s1 s2 (.slice A 0 d) [] (sb + 1) := ⟨hu5, hw5, ho5, Typed.of hans5, by rw [HSB.out]; exact Nat.le_succ _⟩; have HCT := Lib.hid hct; clear hct hu5 hw5 ho5 hk5 hans5)
    refine bodyPost_ret (v := ansVal 8 0 0 (.slice A 0 d)) (by simp [results, Tryd.results52, go_sem, ansVal, b0, b1, b2, b3, b4, b5]) rfl ?_
    refine CutT.post (a := ⟨8, 0, 0, []⟩) (ab := sb + 1) ?_
    have hC := HCT.out
    repeat (first | with_reducible exact hC | with_reducible refine CutT.set ?_ _ _ | with_reducible refine CutT.drew ?_)
  · subst e20
    go_wp2_with (go_at_call 81; refine (HC.out _ (pw_below_drewN HB0.out _)).mono ?_; rintro e w5 ⟨A, d, rfl, ho5, hu5, hw5, hk5⟩; have hans5 := hk5 _ _ _ _ (drewN_keeps HA0.out _) nsAns; obtain ⟨⟨b0, b1, b2, b3, b4, b5⟩, q0, q1, q2, q3, q4, q5⟩ := cells6 hans5; simp only [ansVal]; have hct : CutT w w5 B p m1 hb1 m2 hb2 ob dv1 dv2 s1 s2 (.slice A 0 d) [] (sb + 1) := ⟨hu5, hw5, ho5, Typed.of hans5, by rw [HSB.out]; exact Nat.le_succ _⟩; have HCT := Lib.hid hct; clear hct hu5 hw5 ho5 hk5 hans5)
    refine bodyPost_ret (v := ansVal 8 0 0 (.slice A 0 d)) (by simp [results, Tryd.results52, go_sem, ansVal, b0, b1, b2, b3, b4, b5]) rfl ?_
    refine CutT.post (a := ⟨8, 0, 0, []⟩) (ab := sb + 1) ?_
    have hC := HCT.out
    repeat (first | with_reducible exact hC | with_reducible refine CutT.set ?_ _ _ | with_reducible refine CutT.drew ?_)
set_option maxRecDepth 100000 in
set_option maxHeartbeats 4000000 in
theorem cache_list : Calls Tryd.prog 29 #[.pointer (some ⟨p, 0, none⟩), x.1.val] w fun e w' => ∃ v, e = .returned (ansVal 8 0 0 v) ∧ w'.ownsRow w.heap.size 5 1 v 0 [] ∧ UP w' B p m1 hb1 m2 hb2 ob dv1 dv2 s1 s2 ∧ Wrote (Both hb1 hb2 dv1 dv2) w w' := by
  have hcall : ∀ (W : World), Below w.heap.size w W → Calls Tryd.prog 52 #[.pointer (some ⟨p, 0, none⟩), x.1.val] W (ListPost w W B p m1 hb1 m2 hb2 ob dv1 dv2 s1 s2) := fun W hb0 => (on_list B p m1 hb1 m2 hb2 ob k dv1 dv2 s1 s2 x W (hU.below hb0) hx hO hl hS1 hS2 hG1 hG2 hk (hb.below hb0) (Nat.le_trans hB hb0.size) (fun W' hW' => hbw W' ((Wrote.of_below hb0).trans hW'))).mono (by
    rintro e w' ⟨v, rfl, ho, hu, hw⟩
    obtain ⟨A, c, rfl⟩ := own_slice ho
    exact ⟨A, c, rfl, row_le ho hb0.size, hu, (Wrote.of_below hb0).trans hw, keep_of hw (both_soft (hU.below hb0))⟩)
  obtain ⟨⟨op, name, other, flag, perm, hh, da, dl, dc, off, wh, n⟩, bb⟩ := x
  simp only at hx hl
  subst hx
  unfold Stp.val at hcall ⊢
  simp only at hcall ⊢
  have HC := Lib.hid hcall
  have HU := Lib.hid hU
  clear hcall hU hS1 hS2 hG1 hG2 hb hbw hO
  go_enter Tryd.func29, Tryd.ntmps29
  go_upto_region 1 with fail
  refine world_as (fun W => Below w.heap.size w W ∧ W.heap[w.heap.size]? = some (.cells #[.int .i64 op, .string name, .string other, .int .i64 flag, .int .i64 perm, .int .i64 0, .slice da dl dc, .int .i64 off, .int .i64 wh, .int .i64 n] tStep (0, 0)) ∧ W.heap[w.heap.size + 1]? = some (.cells #[.int .i64 0, .int .i64 0, .int .i64 0, .slice none 0 0, .slice none 0 0, .slice none 0 0] tAns (0, 0))) ⟨two_below _ _ _, two_old _ _ _, two_new _ _ _⟩ (fun W hW => ?_)
  obtain ⟨hB0, hs0, ha0⟩ := hW
  have hp0 := (HU.out.below hB0).pair.blk
  have hlook := of_look (HU.out.below hB0).pair.of_
  have p0 := (cell_of hp0 0).trans rfl
  have p1 := (cell_of hp0 1).trans rfl
  have p2 := (cell_of hp0 2).trans rfl
  have s0 := (cell_of hs0 0).trans rfl
  have s1' := (cell_of hs0 1).trans rfl
  have s2' := (cell_of hs0 2).trans rfl
  have s3 := (cell_of hs0 3).trans rfl
  have s4 := (cell_of hs0 4).trans rfl
  have s5 := (cell_of hs0 5).trans rfl
  have s6 := (cell_of hs0 6).trans rfl
  have s7 := (cell_of hs0 7).trans rfl
  have s8 := (cell_of hs0 8).trans rfl
  have s9 := (cell_of hs0 9).trans rfl
  have HB0 := Lib.hid hB0
  have HA0 := Lib.hid ha0
  obtain ⟨sb, hsb⟩ : ∃ sb, w.heap.size = sb := ⟨_, rfl⟩
  rw [hsb] at s0 s1' s2' s3 s4 s5 s6 s7 s8 s9 HA0 ⊢
  have HSB := Lib.hid hsb
  clear hB0 hs0 ha0 hp0 hsb
  go_upto_region 1 with fail
  rcases hl with e19 | e20
  · subst e19
    go_quiet (fail)
    go_wp2_with (go_at_call 52; refine (HC.out _ (pw_below_drewN HB0.out _)).mono ?_; rintro e w5 ⟨A, d, rfl, ho5, hu5, hw5, hk5⟩; have hans5 := hk5 _ _ _ _ (drewN_keeps HA0.out _) nsAns; obtain ⟨⟨b0, b1, b2, b3, b4, b5⟩, q0, q1, q2, q3, q4, q5⟩ := cells6 hans5; simp only [ansVal]; have hct : CutT w w5 B p m1 hb1 m2 hb2 ob dv1 dv2 s1 s2 (.slice A 0 d) [] (sb + 1) := ⟨hu5, hw5, ho5, Typed.of hans5, by rw [HSB.out]; exact Nat.le_succ _⟩; have HCT := Lib.hid hct; clear hct hu5 hw5 ho5 hk5 hans5)
    refine bodyPost_ret (v := ansVal 8 0 0 (.slice A 0 d)) (by simp [results, Tryd.results29, go_sem, ansVal, b0, b1, b2, b3, b4, b5]) rfl ?_
    refine CutT.post (a := ⟨8, 0, 0, []⟩) (ab := sb + 1) ?_
    have hC := HCT.out
    repeat (first | with_reducible exact hC | with_reducible refine CutT.set ?_ _ _ | with_reducible refine CutT.drew ?_)
  · subst e20
    go_quiet (fail)
    go_wp2_with (go_at_call 52; refine (HC.out _ (pw_below_drewN HB0.out _)).mono ?_; rintro e w5 ⟨A, d, rfl, ho5, hu5, hw5, hk5⟩; have hans5 := hk5 _ _ _ _ (drewN_keeps HA0.out _) nsAns; obtain ⟨⟨b0, b1, b2, b3, b4, b5⟩, q0, q1, q2, q3, q4, q5⟩ := cells6 hans5; simp only [ansVal]; have hct : CutT w w5 B p m1 hb1 m2 hb2 ob dv1 dv2 s1 s2 (.slice A 0 d) [] (sb + 1) := ⟨hu5, hw5, ho5, Typed.of hans5, by rw [HSB.out]; exact Nat.le_succ _⟩; have HCT := Lib.hid hct; clear hct hu5 hw5 ho5 hk5 hans5)
    refine bodyPost_ret (v := ansVal 8 0 0 (.slice A 0 d)) (by simp [results, Tryd.results29, go_sem, ansVal, b0, b1, b2, b3, b4, b5]) rfl ?_
    refine CutT.post (a := ⟨8, 0, 0, []⟩) (ab := sb + 1) ?_
    have hC := HCT.out
    repeat (first | with_reducible exact hC | with_reducible refine CutT.set ?_ _ _ | with_reducible refine CutT.drew ?_)
end
/-- Any step. -/
theorem cache_any (B p m1 hb1 m2 hb2 ob k : Nat) (dv1 dv2 : Value) (s1 s2 : St) (x : Sx) (w : World) (hU : UP w B p m1 hb1 m2 hb2 ob dv1 dv2 s1 s2) (hx : x.1.h = 0) (hO : OpU x) (hS1 : SpkW s1 x) (hS2 : SpkW s2 x) (hG1 : Good k s1) (hG2 : Good k s2) (hk : k ≤ 1000000) (hb : BytesIn w x.1.da x.1.dl x.1.dc x.2) (hB : B ≤ w.heap.size) (hdl : (doF s2 x).1.data.length ≤ 4096) (hbw : ∀ W : World, Wrote (Both hb1 hb2 dv1 dv2) w W → BytesIn W x.1.da x.1.dl x.1.dc x.2) :
    Calls Tryd.prog 29 #[.pointer (some ⟨p, 0, none⟩), x.1.val] w fun e w' => ∃ v, e = .returned (ansVal (doF s2 x).1.e (doF s2 x).1.n (doF s2 x).1.off v) ∧ w'.ownsRow w.heap.size 5 1 v (doF s2 x).1.data.length ((doF s2 x).1.data.map (.int .u8)) ∧ UP w' B p m1 hb1 m2 hb2 ob dv1 dv2 (doB s1 x (doF s2 x).1) (doF s2 x).2 ∧ Wrote (Both hb1 hb2 dv1 dv2) w w' := by
  by_cases hl : x.1.op = 19 ∨ x.1.op = 20
  · have e1 := do_listing (s := s2) hl
    have e2 : doB s1 x (doF s2 x).1 = s1 := by unfold doB; rw [if_pos hl]
    rw [e2, e1]
    exact cache_list B p m1 hb1 m2 hb2 ob k dv1 dv2 s1 s2 x w hU hx hO hl hS1 hS2 hG1 hG2 hk hb hB hbw
  · exact cache_file B p m1 hb1 m2 hb2 ob k dv1 dv2 s1 s2 x w hU hx hO ⟨fun h => hl (.inl h), fun h => hl (.inr h)⟩ hS1 hS2 hG1 hG2 hk hb hB hdl hbw
end Sb
end Go.Proofs.YtnkhfdnahnphdaaDoor
end
section
namespace Go.Proofs.YtnkhfdnahnphdaaDoor
open Go.ChangeShapes Go.WideShapes Go.ChangeAt Go.RowKit Go.Rd Go.Maps
open Go.Proofs.YtnkhfdnahnphdaaDoorW.PrintWords Go.Proofs.YtnkhfdnahnphdaaDoorW.PrintLast Go.Proofs.YtnkhfdnahnphdaaDoorW.PrintMore
set_option linter.unusedVariables false
namespace Sb
/-- A file system: its names, its nodes' numbers, its nodes, its handles. -/
def MemAll (w : World) (B m : Nat) (names : List ByteArray) (ats : List Int) (nodes : List SN) (mb : Nat) (F : Lit → Option Nat) (nm : Nat) : Prop :=
  ∃ nv av dv, MemIs w m nv av dv mb ∧ NamesIs w B nv names ∧ AtsIs w B av ats ∧ NodesIs w B dv nodes ∧ PMap Tryd.prog 3 w mb F nm
theorem alloc_at (w : World) (o : Obj) {n : Nat} (h : n = w.heap.size) : (w.alloc o).heap[n]? = some o := by subst h; exact alloc_new w o
theorem rootK (w : World) (B : Nat) : NodeK w B rootN [.bool true, .int .i64 2147484141, .slice none 0 0, .int .i64 0, .string ⟨#[47]⟩] := ⟨_, rfl, World.ownsRow_nil _ _ _ _, fun c hc => by cases hc⟩
theorem reps_one {α : Type} {R : α → List Value → Prop} {size : Nat} {p : α} {cs : List Value} (h : R p cs) (hc : cs.length = size) : Reps R size [p] cs := by
  have := Reps.snoc (Reps.none R size) h hc
  simpa using this
theorem new_mem (w : World) : Calls Tryd.prog 47 #[] w fun e w' => ∃ m mb, e = .returned (.pointer (some ⟨m, 0, none⟩)) ∧ MemAll w' w.heap.size m [⟨#[47]⟩] [0] [rootN] mb (fun _ => none) 0 ∧ w.heap.size ≤ m ∧ w.heap.size ≤ mb ∧ Below w.heap.size w w' := by
  have hmm := @run_makeMap Tryd.prog
  go_enter Tryd.func47, Tryd.ntmps47
  go_wp2_with fail
  go_ret
  refine ⟨w.heap.size + 1 + 1 + 1 + 1, w.heap.size + 1 + 1 + 1, rfl, ⟨_, _, _, alloc_at _ _ (by simp), ?_, ?_, ?_, ?_⟩, by omega, by omega, ((((Below.refl w.heap.size w).alloc (Nat.le_refl _) _).alloc (by simp) _).alloc (by simp; omega) _).alloc (by simp; omega) _ |>.alloc (by simp; omega) _⟩
  · exact (((((World.ownsRow_lit (base := w.heap.size) (e := 9) (size := 1) w #[.string ⟨#[47]⟩] 1 (Nat.le_refl _) (by decide) rfl).alloc _).alloc _).alloc _).alloc _)
  · have h := World.ownsRow_lit (base := w.heap.size) (e := 3) (size := 1) (w.alloc (.cells #[.string ⟨#[47]⟩] 9)) #[.int .i64 0] 1 (by simp) (by decide) rfl
    have e : (w.alloc (.cells #[.string ⟨#[47]⟩] 9)).heap.size = w.heap.size + 1 := by simp
    rw [e] at h
    exact (((h.alloc _).alloc _).alloc _)
  · have h := OwnRow.lit (R := NodeK ((w.alloc (.cells #[.string ⟨#[47]⟩] 9)).alloc (.cells #[.int .i64 0] 3)) w.heap.size) (e := tN) (size := 5) (ps := [rootN]) ((w.alloc (.cells #[.string ⟨#[47]⟩] 9)).alloc (.cells #[.int .i64 0] 3)) w.heap.size (reps_one (rootK _ _) rfl) (by simp; omega) (by decide)
    have h' := h.imp_ (R' := NodeK (((((w.alloc (.cells #[.string ⟨#[47]⟩] 9)).alloc (.cells #[.int .i64 0] 3)).alloc (.cells #[.bool true, .int .i64 2147484141, .slice none 0 0, .int .i64 0, .string ⟨#[47]⟩] tN)).alloc (.map #[] 0)).alloc (.cells #[.slice (some ⟨w.heap.size, 0, none⟩) 1 1, .slice (some ⟨w.heap.size + 1, 0, none⟩) 1 1, .slice (some ⟨w.heap.size + 1 + 1, 0, none⟩) 1 1, .map (some (w.heap.size + 1 + 1 + 1))] tMem)) w.heap.size) (fun q cs hq => by
      obtain ⟨v, rfl, ho, hf⟩ := hq
      exact ⟨v, rfl, (((ho.alloc _).alloc _).alloc _), hf⟩)
    have h2 := OwnRow.below h' (((Below.refl _ _).alloc (Nat.le_refl _) (.map #[] 0)).alloc (by simp) (.cells #[.slice (some ⟨w.heap.size, 0, none⟩) 1 1, .slice (some ⟨w.heap.size + 1, 0, none⟩) 1 1, .slice (some ⟨w.heap.size + 1 + 1, 0, none⟩) 1 1, .map (some (w.heap.size + 1 + 1 + 1))] tMem))
    simpa using h2
  · have h := PMap.made Tryd.prog 3 (((w.alloc (.cells #[.string ⟨#[47]⟩] 9)).alloc (.cells #[.int .i64 0] 3)).alloc (.cells #[.bool true, .int .i64 2147484141, .slice none 0 0, .int .i64 0, .string ⟨#[47]⟩] tN))
    have h2 := h.below (B := 0) ((Below.refl _ _).alloc (Nat.le_refl _) (.cells #[.slice (some ⟨w.heap.size, 0, none⟩) 1 1, .slice (some ⟨w.heap.size + 1, 0, none⟩) 1 1, .slice (some ⟨w.heap.size + 1 + 1, 0, none⟩) 1 1, .map (some (w.heap.size + 1 + 1 + 1))] tMem))
    simpa using h2
end Sb
end Go.Proofs.YtnkhfdnahnphdaaDoor
end
section
namespace Go.Rd
open Go.ChangeShapes Go.WideShapes Go.RowKit
/-- The first so many of a row are a row, with the room behind them. -/
theorem own_cut {w : World} {base : Nat} {e : TypeId} {g n cap i : Nat} {xs : List Value} (h : w.ownsRow base e 1 (.slice (some ⟨g, 0, none⟩) n cap) n xs) (hi : i ≤ n) : w.ownsRow base e 1 (.slice (some ⟨g, 0, none⟩) i cap) i (xs.take i) := by
  have hl := h.1
  rcases h.2 with ⟨h', _⟩ | ⟨g', cap', cur, h', hb, hg, hnc, hcm, hcs, htake⟩
  · simp at h'
  · simp only [Value.slice.injEq, Option.some.injEq, Addr.mk.injEq, and_true, true_and] at h'
    obtain ⟨rfl, rfl⟩ := h'
    refine ⟨by simp; omega, .inr ⟨g, cap, cur, rfl, hb, hg, by omega, hcm, hcs, ?_⟩⟩
    rw [← htake, List.take_take, Nat.mul_one, Nat.mul_one, Nat.min_eq_left hi]
/-- An append of a row's cells onto a row of one's own. -/
theorem run_app {P : Program} {w : World} (t ty e : TypeId) (base : Nat) (z : Value) (bytes : Nat) (ht : P.underlying t = some (.slice e)) (hinfo : (P.info? e).map (fun i => (i.zero, i.size, i.bytes)) = some (some z, 1, bytes)) (hz : z.cells.size = 1)
    (v : Value) (n : Nat) (xs : List Value) (hown : w.ownsRow base e 1 v n xs) (ad : Addr) (m c : Nat) (news : List Value) (hl : news.length = m) (hc : ∀ j u, news[j]? = some u → w.cell? (ad.add j) = some u) (h1 : ∀ u ∈ news, u.oneCell' = true)
    (h63 : n + m ≤ 1000000000) (hby : bytes ≤ 1000) (hbase : base ≤ w.heap.size) :
    ∃ v' w', (Builtin.append_ #[t, t] ty #[v, .slice (some ad) m c]).run P w = .ok v' w' ∧ w'.ownsRow base e 1 v' (n + m) (xs ++ news) ∧ w.grownBy w' v.ownBlock ∧ (v'.ownBlock = v.ownBlock ∨ v'.ownBlock = some w.heap.size) := by
  obtain ⟨i0, hi, hzz⟩ := Option.map_eq_some_iff.1 hinfo
  simp only [Prod.mk.injEq] at hzz
  obtain ⟨hz0, hz1, hz2⟩ := hzz
  obtain ⟨v', w', hr, h2, h3, _, h5⟩ := run_append_own_at (P := P) w base t ty e i0 z 1 bytes ht hi hz0 hz1 hz2 hz (by decide) v n xs hown ad m c news (by simp [hl]) hc h1 (by unfold maxLen; omega) (by
    have := Nat.mul_le_mul h63 hby
    omega) hbase
  exact ⟨v', w', hr, h2, h3, h5⟩
end Go.Rd
end
section
namespace Go.Proofs.YtnkhfdnahnphdaaDoor
open Go.ChangeShapes Go.WideShapes Go.ChangeAt Go.RowKit Go.Rd Go.Maps
open Go.Proofs.YtnkhfdnahnphdaaDoorW.PrintWords Go.Proofs.YtnkhfdnahnphdaaDoorW.PrintLast Go.Proofs.YtnkhfdnahnphdaaDoorW.PrintMore
set_option linter.unusedVariables false
set_option linter.unusedSimpArgs false
namespace Sb
theorem cut_low_t (t e : TypeId) (hu : Tryd.prog.underlying t = some (.slice e)) (hsz : ∀ W, (sizeOf e).run Tryd.prog W = .ok 1 W) (A : Option Addr) (n c s : Nat) (h : s ≤ c) (W : World) : (Instr.slice t (.slice A n c) none (some (.int .i64 (s : Int))) none).run Tryd.prog W = .ok (.slice A s c) W := by
  go_simp
theorem from_run_t (t e : TypeId) (hu : Tryd.prog.underlying t = some (.slice e)) (hsz : ∀ W, (sizeOf e).run Tryd.prog W = .ok 1 W) (g n c a : Nat) (h : a ≤ n) (hc : n ≤ c) (W : World) : (Instr.slice t (.slice (some ⟨g, 0, none⟩) n c) (some (.int .i64 (a : Int))) none none).run Tryd.prog W = .ok (.slice (some ⟨g, Sa.fromAt c a, none⟩) (n - a) (c - a)) W := by
  unfold Sa.fromAt
  by_cases e1 : c = a
  · subst e1
    go_simp
  · rw [if_neg e1]
    go_simp
theorem drew_alloc_size (w : World) (o : Obj) : (w.alloc o).drew.heap.size = w.heap.size + 1 := by
  show (w.alloc o).heap.size = _
  simp
/-- One value put into a row of one's own: the literal with what comes behind it, and then the row's beginning with these. -/
theorem ins_runs {w : World} (t ty1 ty2 e : TypeId) (z : Value) (bytes : Nat) (ht : Tryd.prog.underlying t = some (.slice e)) (hinfo : (Tryd.prog.info? e).map (fun i => (i.zero, i.size, i.bytes)) = some (some z, 1, bytes)) (hz : z.cells.size = 1) (hby : bytes ≤ 1000)
    (B g n c i lb : Nat) (xs : List Value) (x : Value) (hown : w.ownsRow B e 1 (.slice (some ⟨g, 0, none⟩) n c) n xs) (hlit : w.ownsRow lb e 1 (.slice (some ⟨lb, 0, none⟩) 1 1) 1 [x]) (hne : g < lb) (h1 : ∀ u ∈ xs, u.oneCell' = true) (hx : x.oneCell' = true) (hi : i ≤ n) (hn : n ≤ 1000000) (hB : B ≤ w.heap.size) :
    ∃ A2 c2 w2 v3 w3, ((Builtin.append_ #[t, t] ty1 #[.slice (some ⟨lb, 0, none⟩) 1 1, .slice (some ⟨g, Sa.fromAt c i, none⟩) (n - i) (c - i)]).run Tryd.prog w = .ok (.slice (some A2) (1 + (n - i)) c2) w2 ∧
      (Builtin.append_ #[t, t] ty2 #[.slice (some ⟨g, 0, none⟩) i c, .slice (some A2) (1 + (n - i)) c2]).run Tryd.prog w2 = .ok v3 w3) ∧ Wrote (fun k => k = lb) w w2 ∧ Wrote (fun k => k = g) w2 w3 ∧ w3.ownsRow B e 1 v3 (n + 1) (xs.take i ++ x :: xs.drop i) ∧ (v3.ownBlock = some g ∨ ∃ k, v3.ownBlock = some k ∧ w.heap.size ≤ k) := by
  have hlx : xs.length = n := by have := hown.1; omega
  have hlbs : lb < w.heap.size := own_lt hlit lb rfl
  obtain ⟨v2, w2, hr2, ho2, hg2, hat2⟩ := run_app (P := Tryd.prog) (w := w) t ty1 e lb z bytes ht hinfo hz (.slice (some ⟨lb, 0, none⟩) 1 1) 1 [x] hlit ⟨g, Sa.fromAt c i, none⟩ (n - i) (c - i) (xs.drop i) (by simp; omega) (fun j u hu => by
    have hij : i + j < n := by have := (List.getElem?_eq_some_iff.1 hu).1; simp at this; omega
    rw [List.getElem?_drop] at hu
    have hc : c ≠ i := by have := own_le hown; omega
    unfold Sa.fromAt
    rw [if_neg hc]
    have := hown.cells (g := g) rfl (i + j) u hu
    rw [addr_add, Nat.zero_add] at this
    rw [addr_add]
    exact this) (fun u hu => h1 u (List.mem_of_mem_drop hu)) (by omega) hby (by omega)
  have hs2 : w.heap.size ≤ w2.heap.size := hg2.size
  obtain ⟨A2, c2, rfl⟩ := own_slice ho2
  cases A2 with
  | none =>
    rcases ho2.2 with ⟨_, h⟩ | ⟨g', cap', cur, h, _⟩
    · omega
    · cases h
  | some A2 =>
    obtain ⟨ab, ao, asub⟩ := A2
    obtain ⟨rfl, rfl⟩ : ao = 0 ∧ asub = none := by
      rcases ho2.2 with ⟨h, _⟩ | ⟨g', cap', cur, h, _⟩
      · cases h
      · simp only [Value.slice.injEq, Option.some.injEq, Addr.mk.injEq] at h
        exact ⟨h.1.2.1, h.1.2.2⟩
    have hw2 : Wrote (fun k => k = lb) w w2 := ⟨hg2.os, hg2.tape, hg2.output, hg2.size, fun k hk hs => hg2.block k hk (fun e => hs (by simp [Value.ownBlock] at e; omega))⟩
    have hown2 : w2.ownsRow B e 1 (.slice (some ⟨g, 0, none⟩) n c) n xs := own_move hown (fun k hk => hw2.block k (own_lt hown k hk) (fun e => by simp [Value.ownBlock] at hk; omega))
    obtain ⟨v3, w3, hr3, ho3, hg3, hat3⟩ := run_app (P := Tryd.prog) (w := w2) t ty2 e B z bytes ht hinfo hz (.slice (some ⟨g, 0, none⟩) i c) i (xs.take i) (Go.Rd.own_cut hown2 hi) ⟨ab, 0, none⟩ (1 + (n - i)) c2 ([x] ++ xs.drop i) (by simp; omega) (fun j u hu => by
      exact ho2.cells (g := ab) rfl j u hu) (fun u hu => by
      rcases List.mem_append.1 hu with h | h
      · rw [List.mem_singleton.1 h]; exact hx
      · exact h1 u (List.mem_of_mem_drop h)) (by omega) hby (by omega)
    refine ⟨⟨ab, 0, none⟩, c2, w2, v3, w3, ⟨hr2, hr3⟩, hw2, ⟨hg3.os, hg3.tape, hg3.output, hg3.size, fun k hk hs => hg3.block k hk (fun e => hs (by simp [Value.ownBlock] at e; omega))⟩, ?_, ?_⟩
    · have e : i + (1 + (n - i)) = n + 1 := by omega
      rw [e] at ho3
      simpa using ho3
    · rcases hat3 with e | e
      · exact .inl (by simpa [Value.ownBlock] using e)
      · exact .inr ⟨_, e, hs2⟩
set_option maxRecDepth 100000 in
set_option maxHeartbeats 2000000 in
theorem put_new (m B mb g1 c1 g2 c2 : Nat) (dv : Value) (l : List ByteArray) (ats : List Int) (x : ByteArray) (q : Int) (w : World) (hM : MemIs w m (.slice (some ⟨g1, 0, none⟩) l.length c1) (.slice (some ⟨g2, 0, none⟩) ats.length c2) dv mb) (hN : NamesIs w B (.slice (some ⟨g1, 0, none⟩) l.length c1) l) (hA : AtsIs w B (.slice (some ⟨g2, 0, none⟩) ats.length c2) ats) (hla : ats.length = l.length) (hl : l.length ≤ 100000) (i : Nat) (hp : placeOf l x = (i, false)) (hi : i ≤ l.length) (hB : B ≤ w.heap.size) :
    Calls Tryd.prog 73 #[.pointer (some ⟨m, 0, none⟩), .string x, .int .i64 q] w fun e w' => ∃ nv av, e = .returned (.tuple #[]) ∧ MemIs w' m nv av dv mb ∧ NamesIs w' B nv (l.take i ++ x :: l.drop i) ∧ AtsIs w' B av (ats.take i ++ q :: ats.drop i) ∧ Wrote (fun k => k = m ∨ k = g1 ∨ k = g2) w w' := by
  have hpl := place_any m B mb _ _ dv l x w hM hN (by omega)
  rw [hp] at hpl
  have m0 := (cell_of hM 0).trans rfl
  have hcl : l.length ≤ c1 := own_le hN
  have hca : l.length ≤ c2 := by have := own_le hA; omega
  have hlm := lt_of_heap hM
  have hlg1 := own_lt hN g1 rfl
  have hlg2 := own_lt hA g2 rfl
  have hmg1 : m ≠ g1 := fun e => by
    obtain ⟨c, hc⟩ := own_typed hN g1 rfl
    exact blk_ne hM hc (by decide) e
  have hmg2 : m ≠ g2 := fun e => by
    obtain ⟨c, hc⟩ := own_typed hA g2 rfl
    exact blk_ne hM hc (by decide) e
  have hg12 : g1 ≠ g2 := fun e => by
    obtain ⟨c, hc⟩ := own_typed hN g1 rfl
    obtain ⟨c', hc'⟩ := own_typed hA g2 rfl
    exact blk_ne hc hc' (by decide) e
  -- the names
  have bA : Below w.heap.size w (w.alloc (.cells #[.string x] 9)).drew := ((Below.refl _ _).alloc (Nat.le_refl _) _).drew
  obtain ⟨A1, d1, y1, v1, z1, hr1, hw1, hz1, ho1, hat1⟩ := ins_runs (w := (w.alloc (.cells #[.string x] 9)).drew) 39 39 39 9 (.string ⟨#[]⟩) 16 Tryd.underlying39 (by kernel_rfl) rfl (by decide) B g1 l.length c1 i w.heap.size (l.map Value.string) (.string x)
    (own_move hN (fun k hk => bA.block k (own_lt hN k hk))) (World.ownsRow_lit (base := w.heap.size) (e := 9) (size := 1) w #[.string x] 1 (Nat.le_refl _) (by decide) rfl) hlg1 (by simp [Value.oneCell']) rfl hi (by omega) (by rw [drew_alloc_size]; omega)
  obtain ⟨B1, e1, rfl⟩ := own_slice ho1
  have mA := (bA.block m hlm).trans hM
  have hszA : w.heap.size < (w.alloc (.cells #[.string x] 9)).drew.heap.size := by rw [drew_alloc_size]; omega
  have mY := (hw1.block m (by omega) (fun e => by omega)).trans mA
  have mZ := (hz1.block m (by have := hw1.size; omega) (fun e => hmg1 e)).trans mY
  have hg2Z : ∀ k, (Value.slice (some ⟨g2, 0, none⟩) ats.length c2).ownBlock = some k → z1.heap[k]? = w.heap[k]? := fun k hk => by
    simp [Value.ownBlock] at hk
    subst hk
    exact (hz1.block g2 (by have := hw1.size; omega) (fun e => hg12 e.symm)).trans ((hw1.block g2 (by omega) (fun e => by omega)).trans (bA.block g2 hlg2))
  have hAZ := own_move hA hg2Z
  have k1m := (cell_of mA 0).trans rfl
  have k1n := (cell_of mY 0).trans rfl
  have k1z := (cell_of mZ 0).trans rfl
  -- the store of the names
  have hMs : MemIs (z1.setCell ⟨m, 0, none⟩ (.slice B1 (l.length + 1) e1)) m (.slice B1 (l.length + 1) e1) (.slice (some ⟨g2, 0, none⟩) ats.length c2) dv mb := Go.Rd.heap_setCell_same (o := 0) mZ _
  have hv1m : (Value.slice B1 (l.length + 1) e1).ownBlock ≠ some m := fun e => by
    obtain ⟨c, hc⟩ := own_typed ho1 m e
    exact blk_ne mZ hc (by decide) rfl
  have hNs : (z1.setCell ⟨m, 0, none⟩ (.slice B1 (l.length + 1) e1)).ownsRow B 9 1 (.slice B1 (l.length + 1) e1) (l.length + 1) ((l.map Value.string).take i ++ .string x :: (l.map Value.string).drop i) := own_move ho1 (fun k hk => Below.heap_setCell _ _ _ _ (fun e => hv1m (by rw [hk]; exact congrArg some e)))
  have hAs : (z1.setCell ⟨m, 0, none⟩ (.slice B1 (l.length + 1) e1)).ownsRow B 3 1 (.slice (some ⟨g2, 0, none⟩) ats.length c2) ats.length (ats.map (.int .i64)) := own_move hAZ (fun k hk => Below.heap_setCell _ _ _ _ (fun e => by simp [Value.ownBlock] at hk; simp only at e; omega))
  have hWs : Wrote (fun k => k = m ∨ k = g1 ∨ k = g2) w (z1.setCell ⟨m, 0, none⟩ (.slice B1 (l.length + 1) e1)) := by
    refine Wrote.setCell ?_ (fun _ => .inl rfl) _
    refine ⟨hz1.os.trans (hw1.os.trans bA.os), hz1.tape.trans (hw1.tape.trans bA.tape), hz1.output.trans (hw1.output.trans bA.output), by have := hz1.size; have := hw1.size; omega, fun k hk hs => ?_⟩
    exact (hz1.block k (by have := hw1.size; omega) (fun e => hs (.inr (.inl e)))).trans ((hw1.block k (by omega) (fun e => by omega)).trans (bA.block k hk))
  have hsz1 : B ≤ (z1.setCell ⟨m, 0, none⟩ (.slice B1 (l.length + 1) e1)).heap.size := by have := hWs.size; omega
  have hfz1 := free_of mZ 0
  -- the numbers
  generalize hws : z1.setCell ⟨m, 0, none⟩ (.slice B1 (l.length + 1) e1) = ws at *
  have bB : Below ws.heap.size ws (ws.alloc (.cells #[.int .i64 q] 3)).drew := ((Below.refl _ _).alloc (Nat.le_refl _) _).drew
  have hlm2 := lt_of_heap hMs
  have hlg2' := own_lt hAs g2 rfl
  rw [hla] at hMs hAs
  obtain ⟨A2, d2, y2, v2, z2, hr2, hw2, hz2, ho2, hat2⟩ := ins_runs (w := (ws.alloc (.cells #[.int .i64 q] 3)).drew) 75 75 75 3 (.int .i64 0) 8 Tryd.underlying75 (by kernel_rfl) rfl (by decide) B g2 l.length c2 i ws.heap.size (ats.map (.int .i64)) (.int .i64 q)
    (own_move hAs (fun k hk => bB.block k (own_lt hAs k hk))) (World.ownsRow_lit (base := ws.heap.size) (e := 3) (size := 1) ws #[.int .i64 q] 1 (Nat.le_refl _) (by decide) rfl) hlg2' (by simp [Value.oneCell']) rfl hi (by omega) (by rw [drew_alloc_size]; omega)
  obtain ⟨B2, e2, rfl⟩ := own_slice ho2
  have mA2 := (bB.block m hlm2).trans hMs
  have hszB : ws.heap.size < (ws.alloc (.cells #[.int .i64 q] 3)).drew.heap.size := by rw [drew_alloc_size]; omega
  have mY2 := (hw2.block m (by omega) (fun e => by omega)).trans mA2
  have mZ2 := (hz2.block m (by have := hw2.size; omega) (fun e => hmg2 e)).trans mY2
  have ms1 := (cell_of hMs 1).trans rfl
  have k2m := (cell_of mA2 1).trans rfl
  have k2n := (cell_of mY2 1).trans rfl
  have k2z := (cell_of mZ2 1).trans rfl
  have hv1s := own_lt hNs
  have hMe : MemIs (z2.setCell ⟨m, 1, none⟩ (.slice B2 (l.length + 1) e2)) m (.slice B1 (l.length + 1) e1) (.slice B2 (l.length + 1) e2) dv mb := Go.Rd.heap_setCell_same (o := 1) mZ2 _
  have hv2m : (Value.slice B2 (l.length + 1) e2).ownBlock ≠ some m := fun e => by
    obtain ⟨c, hc⟩ := own_typed ho2 m e
    exact blk_ne mZ2 hc (by decide) rfl
  have hv1g2 : (Value.slice B1 (l.length + 1) e1).ownBlock ≠ some g2 := fun e => by
    obtain ⟨c, hc⟩ := own_typed hNs g2 e
    obtain ⟨c', hc'⟩ := own_typed hAs g2 rfl
    exact blk_ne hc hc' (by decide) rfl
  have hAe : (z2.setCell ⟨m, 1, none⟩ (.slice B2 (l.length + 1) e2)).ownsRow B 3 1 (.slice B2 (l.length + 1) e2) (l.length + 1) ((ats.map (.int .i64)).take i ++ .int .i64 q :: (ats.map (.int .i64)).drop i) := own_move ho2 (fun k hk => Below.heap_setCell _ _ _ _ (fun e => hv2m (by rw [hk]; exact congrArg some e)))
  have hNe : (z2.setCell ⟨m, 1, none⟩ (.slice B2 (l.length + 1) e2)).ownsRow B 9 1 (.slice B1 (l.length + 1) e1) (l.length + 1) ((l.map Value.string).take i ++ .string x :: (l.map Value.string).drop i) := own_move hNs (fun k hk => (Below.heap_setCell _ _ _ _ (fun e => hv1m (by rw [hk]; exact congrArg some e))).trans ((hz2.block k (by have := hv1s k hk; have := hw2.size; omega) (fun e => hv1g2 (e ▸ hk))).trans ((hw2.block k (by have := hv1s k hk; omega) (fun e => by have := hv1s k hk; omega)).trans (bB.block k (hv1s k hk)))))
  have hWe : Wrote (fun k => k = m ∨ k = g1 ∨ k = g2) w (z2.setCell ⟨m, 1, none⟩ (.slice B2 (l.length + 1) e2)) := by
    refine Wrote.setCell ?_ (fun _ => .inl rfl) _
    refine hWs.trans ⟨hz2.os.trans (hw2.os.trans bB.os), hz2.tape.trans (hw2.tape.trans bB.tape), hz2.output.trans (hw2.output.trans bB.output), by have := hz2.size; have := hw2.size; omega, fun k hk hs => ?_⟩
    exact (hz2.block k (by have := hw2.size; omega) (fun e => hs (.inr (.inr e)))).trans ((hw2.block k (by omega) (fun e => by omega)).trans (bB.block k hk))
  have hfz2 := free_of mZ2 1
  have hfin : ∃ nv av, MemIs (z2.setCell ⟨m, 1, none⟩ (.slice B2 (l.length + 1) e2)) m nv av dv mb ∧ NamesIs (z2.setCell ⟨m, 1, none⟩ (.slice B2 (l.length + 1) e2)) B nv (l.take i ++ x :: l.drop i) ∧ AtsIs (z2.setCell ⟨m, 1, none⟩ (.slice B2 (l.length + 1) e2)) B av (ats.take i ++ q :: ats.drop i) ∧ Wrote (fun k => k = m ∨ k = g1 ∨ k = g2) w (z2.setCell ⟨m, 1, none⟩ (.slice B2 (l.length + 1) e2)) := by
    refine ⟨(.slice B1 (l.length + 1) e1), (.slice B2 (l.length + 1) e2), hMe, ?_, ?_, hWe⟩
    · unfold NamesIs
      have e : (l.take i ++ x :: l.drop i).length = l.length + 1 := by simp; omega
      rw [e]
      simpa [List.map_take, List.map_drop] using hNe
    · unfold AtsIs
      have e : (ats.take i ++ q :: ats.drop i).length = l.length + 1 := by simp; omega
      rw [e]
      simpa [List.map_take, List.map_drop] using hAe
  have HF := Lib.hid hfin
  have HP := Lib.hid hpl
  have HR1 := Lib.hid hr1
  have HR2 := Lib.hid hr2
  have HWS := Lib.hid hws
  have hs1 := cut_low_t 39 9 Tryd.underlying39 (fun _ => by kernel_rfl) (some ⟨g1, 0, none⟩) l.length c1 i (by omega)
  have hs2 := from_run_t 39 9 Tryd.underlying39 (fun _ => by kernel_rfl) g1 l.length c1 i hi hcl
  have hs3 := cut_low_t 75 3 Tryd.underlying75 (fun _ => by kernel_rfl) (some ⟨g2, 0, none⟩) l.length c2 i (by omega)
  have hs4 := from_run_t 75 3 Tryd.underlying75 (fun _ => by kernel_rfl) g2 l.length c2 i hi hca
  clear hpl hp hM hN hA hfin hr1 hr2 hMs hNs hAs hWs hsz1 bA bB hw1 hz1 ho1 hat1 hw2 hz2 ho2 hat2 mA mY mZ mA2 mY2 mZ2 hMe hAe hNe hWe hg2Z hAZ hszA hszB hlm hlg1 hlg2 hlm2 hlg2' hmg1 hmg2 hg12 hv1m hv2m hv1g2 hv1s hws
  go_enter Tryd.func73, Tryd.ntmps73
  go_upto_region 3 with (go_at_call 92; refine HP.out.mono ?_; rintro e w1 ⟨rfl, rfl⟩)
  refine Rg.start 17 (fun w' => w'.cell? ⟨m, 0, none⟩ = some (.slice (some ⟨g1, 0, none⟩) l.length c1)) (by kernel_rfl) m0 (fun hHeld => ?_)
  refine Rg.take (i := 0) (v := ?_) rfl (by kernel_rfl) (by kernel_rfl) (by kernel_rfl) (by kernel_rfl) (by kernel_rfl) (by kernel_rfl) (fun _ _ _ h => h) (Or.inl ⟨by rfl, ?_⟩) (by assumption) ?_
  rotate_left
  · (intro w hSw; (try dsimp only at hSw); go_split_ands; go_simp) <;> with_reducible rfl
  (try simp only [Act.put, List.setIfInBounds_toArray, List.set_cons_zero, List.set_cons_succ, List.getElem_toArray, List.getElem_cons_succ, List.getElem_cons_zero])
  refine Rg.take (i := 1) (v := ?_) rfl (by kernel_rfl) (by kernel_rfl) (by kernel_rfl) (by kernel_rfl) (by kernel_rfl) (by kernel_rfl) (fun _ _ _ h => h) (Or.inl ⟨by rfl, ?_⟩) (by assumption) ?_
  rotate_left
  · (intro w hSw; (try dsimp only at hSw); go_split_ands; go_simp) <;> with_reducible rfl
  (try simp only [Act.put, List.setIfInBounds_toArray, List.set_cons_zero, List.set_cons_succ, List.getElem_toArray, List.getElem_cons_succ, List.getElem_cons_zero])
  refine Rg.take (i := 2) (v := ?_) rfl (by kernel_rfl) (by kernel_rfl) (by kernel_rfl) (by kernel_rfl) (by kernel_rfl) (by kernel_rfl) (fun _ _ _ h => h) (Or.inl ⟨by rfl, ?_⟩) (by assumption) ?_
  rotate_left
  · (intro w hSw; (try dsimp only at hSw); go_split_ands; go_simp) <;> with_reducible rfl
  (try simp only [Act.put, List.setIfInBounds_toArray, List.set_cons_zero, List.set_cons_succ, List.getElem_toArray, List.getElem_cons_succ, List.getElem_cons_zero])
  refine Rg.take (i := 3) (v := ?_) rfl (by kernel_rfl) (by kernel_rfl) (by kernel_rfl) (by kernel_rfl) (by kernel_rfl) (by kernel_rfl) (fun _ _ _ h => h) (Or.inl ⟨by rfl, ?_⟩) (by assumption) ?_
  rotate_left
  · (intro w hSw; (try dsimp only at hSw); go_split_ands; go_simp) <;> with_reducible rfl
  (try simp only [Act.put, List.setIfInBounds_toArray, List.set_cons_zero, List.set_cons_succ, List.getElem_toArray, List.getElem_cons_succ, List.getElem_cons_zero])
  refine Rg.take (i := 4) (v := ?_) rfl (by kernel_rfl) (by kernel_rfl) (by kernel_rfl) (by kernel_rfl) (by kernel_rfl) (by kernel_rfl) (fun _ _ _ h => h) (Or.inl ⟨by rfl, ?_⟩) (by assumption) ?_
  rotate_left
  · (intro w hSw; (try dsimp only at hSw); go_split_ands; go_simp) <;> with_reducible rfl
  (try simp only [Act.put, List.setIfInBounds_toArray, List.set_cons_zero, List.set_cons_succ, List.getElem_toArray, List.getElem_cons_succ, List.getElem_cons_zero])
  refine Rg.take (i := 5) (v := ?_) rfl (by kernel_rfl) (by kernel_rfl) (by kernel_rfl) (by kernel_rfl) (by kernel_rfl) (by kernel_rfl) (fun _ _ _ h => h) (Or.inl ⟨by rfl, ?_⟩) (by assumption) ?_
  rotate_left
  · (intro w hSw; (try dsimp only at hSw); go_split_ands; go_simp) <;> with_reducible rfl
  (try simp only [Act.put, List.setIfInBounds_toArray, List.set_cons_zero, List.set_cons_succ, List.getElem_toArray, List.getElem_cons_succ, List.getElem_cons_zero])
  refine Rg.take (i := 6) (v := ?_) rfl (by kernel_rfl) (by kernel_rfl) (by kernel_rfl) (by kernel_rfl) (by kernel_rfl) (by kernel_rfl) (fun _ _ _ h => h) (Or.inl ⟨by rfl, ?_⟩) (by assumption) ?_
  rotate_left
  · (intro w hSw; (try dsimp only at hSw); go_split_ands; go_simp) <;> with_reducible rfl
  (try simp only [Act.put, List.setIfInBounds_toArray, List.set_cons_zero, List.set_cons_succ, List.getElem_toArray, List.getElem_cons_succ, List.getElem_cons_zero])
  refine Rg.take (i := 7) (v := ?_) rfl (by kernel_rfl) (by kernel_rfl) (by kernel_rfl) (by kernel_rfl) (by kernel_rfl) (by kernel_rfl) (fun _ _ _ h => h) (Or.inl ⟨by rfl, ?_⟩) (by assumption) ?_
  rotate_left
  · (intro w hSw; (try dsimp only at hSw); go_split_ands; go_simp) <;> with_reducible rfl
  (try simp only [Act.put, List.setIfInBounds_toArray, List.set_cons_zero, List.set_cons_succ, List.getElem_toArray, List.getElem_cons_succ, List.getElem_cons_zero])
  refine Rg.take (i := 9) (v := ?_) rfl (by kernel_rfl) (by kernel_rfl) (by kernel_rfl) (by kernel_rfl) (by kernel_rfl) (by kernel_rfl) (fun _ _ _ h => h) (Or.inl ⟨by rfl, ?_⟩) (by assumption) ?_
  rotate_left
  · (intro w hSw; (try dsimp only at hSw); go_split_ands; go_simp) <;> with_reducible rfl
  (try simp only [Act.put, List.setIfInBounds_toArray, List.set_cons_zero, List.set_cons_succ, List.getElem_toArray, List.getElem_cons_succ, List.getElem_cons_zero])
  refine Rg.take (i := 10) (v := ?_) rfl (by kernel_rfl) (by kernel_rfl) (by kernel_rfl) (by kernel_rfl) (by kernel_rfl) (by kernel_rfl) (fun _ _ _ h => h) (Or.inl ⟨by rfl, ?_⟩) (by assumption) ?_
  rotate_left
  · (intro w hSw; (try dsimp only at hSw); go_split_ands; go_simp) <;> with_reducible rfl
  (try simp only [Act.put, List.setIfInBounds_toArray, List.set_cons_zero, List.set_cons_succ, List.getElem_toArray, List.getElem_cons_succ, List.getElem_cons_zero])
  refine Rg.take (i := 11) (v := ?_) rfl (by kernel_rfl) (by kernel_rfl) (by kernel_rfl) (by kernel_rfl) (by kernel_rfl) (by kernel_rfl) (fun _ _ _ h => h) (Or.inl ⟨by rfl, ?_⟩) (by assumption) ?_
  rotate_left
  · (intro w hSw; (try dsimp only at hSw); go_split_ands; go_simp) <;> with_reducible rfl
  (try simp only [Act.put, List.setIfInBounds_toArray, List.set_cons_zero, List.set_cons_succ, List.getElem_toArray, List.getElem_cons_succ, List.getElem_cons_zero])
  refine Rg.take (i := 12) (v := ?_) rfl (by kernel_rfl) (by kernel_rfl) (by kernel_rfl) (by kernel_rfl) (by kernel_rfl) (by kernel_rfl) (fun _ _ _ h => h) (Or.inl ⟨by rfl, ?_⟩) (by assumption) ?_
  rotate_left
  · (intro w hSw; (try dsimp only at hSw); go_split_ands; go_simp) <;> with_reducible rfl
  (try simp only [Act.put, List.setIfInBounds_toArray, List.set_cons_zero, List.set_cons_succ, List.getElem_toArray, List.getElem_cons_succ, List.getElem_cons_zero])
  refine Rg.take (i := 13) (v := ?_) rfl (by kernel_rfl) (by kernel_rfl) (by kernel_rfl) (by kernel_rfl) (by kernel_rfl) (by kernel_rfl) (fun _ _ _ h => h) (Or.inl ⟨by rfl, ?_⟩) (by assumption) ?_
  rotate_left
  · (intro w hSw; (try dsimp only at hSw); go_split_ands; go_simp) <;> with_reducible rfl
  (try simp only [Act.put, List.setIfInBounds_toArray, List.set_cons_zero, List.set_cons_succ, List.getElem_toArray, List.getElem_cons_succ, List.getElem_cons_zero])
  refine Rg.take (i := 14) (v := ?_) rfl (by kernel_rfl) (by kernel_rfl) (by kernel_rfl) (by kernel_rfl) (by kernel_rfl) (by kernel_rfl) (fun _ _ _ h => h) (Or.inl ⟨by rfl, ?_⟩) (by assumption) ?_
  rotate_left
  · (intro w hSw; (try dsimp only at hSw); go_split_ands; go_simp) <;> with_reducible rfl
  (try simp only [Act.put, List.setIfInBounds_toArray, List.set_cons_zero, List.set_cons_succ, List.getElem_toArray, List.getElem_cons_succ, List.getElem_cons_zero])
  refine Rg.one (i := 8) rfl (by kernel_rfl) (by kernel_rfl) (fun K hK => ?_)
  go_simp
  refine hK.out _ _ k1m (fun hHeld => ?_)
  clear hK K
  (try simp only [Act.put, List.setIfInBounds_toArray, List.set_cons_zero, List.set_cons_succ, List.getElem_toArray, List.getElem_cons_succ, List.getElem_cons_zero])
  refine Rg.one (i := 15) rfl (by kernel_rfl) (by kernel_rfl) (fun K hK => ?_)
  refine step_append_run rfl (.tmp 30) (.tmp 36) 39 rfl _ _ (by simp [Act.eval]) (by simp [Act.eval]) (fun v W => v = .slice (some A1) (1 + (l.length - i)) d1 ∧ W = y1) ⟨_, _, HR1.out.1, rfl, rfl⟩ ?_
  rintro v W ⟨rfl, rfl⟩
  refine hK.out _ _ k1n (fun hHeld => ?_)
  clear hK K
  (try simp only [Act.put, List.setIfInBounds_toArray, List.set_cons_zero, List.set_cons_succ, List.getElem_toArray, List.getElem_cons_succ, List.getElem_cons_zero])
  refine Rg.one (i := 16) rfl (by kernel_rfl) (by kernel_rfl) (fun K hK => ?_)
  refine step_append_run rfl (.tmp 28) (.tmp 37) 39 rfl _ _ (by simp [Act.eval]) (by simp [Act.eval]) (fun v W => v = .slice B1 (l.length + 1) e1 ∧ W = z1) ⟨_, _, HR1.out.2, rfl, rfl⟩ ?_
  rintro v W ⟨rfl, rfl⟩
  refine hK.out _ _ k1z (fun hHeld => ?_)
  clear hK K
  (try simp only [Act.put, List.setIfInBounds_toArray, List.set_cons_zero, List.set_cons_succ, List.getElem_toArray, List.getElem_cons_succ, List.getElem_cons_zero])
  refine Rg.rest _ rfl rfl (by kernel_rfl) (by kernel_rfl) ?_
  simp only [List.drop_succ_cons, List.drop_zero]
  clear hHeld
  go_upto_region 4 with fail
  rw [HWS.out]
  refine Rg.start 17 (fun w' => w'.cell? ⟨m, 1, none⟩ = some (.slice (some ⟨g2, 0, none⟩) l.length c2)) (by kernel_rfl) ms1 (fun hHeld => ?_)
  refine Rg.take (i := 0) (v := ?_) rfl (by kernel_rfl) (by kernel_rfl) (by kernel_rfl) (by kernel_rfl) (by kernel_rfl) (by kernel_rfl) (fun _ _ _ h => h) (Or.inl ⟨by rfl, ?_⟩) (by assumption) ?_
  rotate_left
  · (intro w hSw; (try dsimp only at hSw); go_split_ands; go_simp) <;> with_reducible rfl
  (try simp only [Act.put, List.setIfInBounds_toArray, List.set_cons_zero, List.set_cons_succ, List.getElem_toArray, List.getElem_cons_succ, List.getElem_cons_zero])
  refine Rg.take (i := 1) (v := ?_) rfl (by kernel_rfl) (by kernel_rfl) (by kernel_rfl) (by kernel_rfl) (by kernel_rfl) (by kernel_rfl) (fun _ _ _ h => h) (Or.inl ⟨by rfl, ?_⟩) (by assumption) ?_
  rotate_left
  · (intro w hSw; (try dsimp only at hSw); go_split_ands; go_simp) <;> with_reducible rfl
  (try simp only [Act.put, List.setIfInBounds_toArray, List.set_cons_zero, List.set_cons_succ, List.getElem_toArray, List.getElem_cons_succ, List.getElem_cons_zero])
  refine Rg.take (i := 2) (v := ?_) rfl (by kernel_rfl) (by kernel_rfl) (by kernel_rfl) (by kernel_rfl) (by kernel_rfl) (by kernel_rfl) (fun _ _ _ h => h) (Or.inl ⟨by rfl, ?_⟩) (by assumption) ?_
  rotate_left
  · (intro w hSw; (try dsimp only at hSw); go_split_ands; go_simp) <;> with_reducible rfl
  (try simp only [Act.put, List.setIfInBounds_toArray, List.set_cons_zero, List.set_cons_succ, List.getElem_toArray, List.getElem_cons_succ, List.getElem_cons_zero])
  refine Rg.take (i := 3) (v := ?_) rfl (by kernel_rfl) (by kernel_rfl) (by kernel_rfl) (by kernel_rfl) (by kernel_rfl) (by kernel_rfl) (fun _ _ _ h => h) (Or.inl ⟨by rfl, ?_⟩) (by assumption) ?_
  rotate_left
  · (intro w hSw; (try dsimp only at hSw); go_split_ands; go_simp) <;> with_reducible rfl
  (try simp only [Act.put, List.setIfInBounds_toArray, List.set_cons_zero, List.set_cons_succ, List.getElem_toArray, List.getElem_cons_succ, List.getElem_cons_zero])
  refine Rg.take (i := 4) (v := ?_) rfl (by kernel_rfl) (by kernel_rfl) (by kernel_rfl) (by kernel_rfl) (by kernel_rfl) (by kernel_rfl) (fun _ _ _ h => h) (Or.inl ⟨by rfl, ?_⟩) (by assumption) ?_
  rotate_left
  · (intro w hSw; (try dsimp only at hSw); go_split_ands; go_simp) <;> with_reducible rfl
  (try simp only [Act.put, List.setIfInBounds_toArray, List.set_cons_zero, List.set_cons_succ, List.getElem_toArray, List.getElem_cons_succ, List.getElem_cons_zero])
  refine Rg.take (i := 5) (v := ?_) rfl (by kernel_rfl) (by kernel_rfl) (by kernel_rfl) (by kernel_rfl) (by kernel_rfl) (by kernel_rfl) (fun _ _ _ h => h) (Or.inl ⟨by rfl, ?_⟩) (by assumption) ?_
  rotate_left
  · (intro w hSw; (try dsimp only at hSw); go_split_ands; go_simp) <;> with_reducible rfl
  (try simp only [Act.put, List.setIfInBounds_toArray, List.set_cons_zero, List.set_cons_succ, List.getElem_toArray, List.getElem_cons_succ, List.getElem_cons_zero])
  refine Rg.take (i := 6) (v := ?_) rfl (by kernel_rfl) (by kernel_rfl) (by kernel_rfl) (by kernel_rfl) (by kernel_rfl) (by kernel_rfl) (fun _ _ _ h => h) (Or.inl ⟨by rfl, ?_⟩) (by assumption) ?_
  rotate_left
  · (intro w hSw; (try dsimp only at hSw); go_split_ands; go_simp) <;> with_reducible rfl
  (try simp only [Act.put, List.setIfInBounds_toArray, List.set_cons_zero, List.set_cons_succ, List.getElem_toArray, List.getElem_cons_succ, List.getElem_cons_zero])
  refine Rg.take (i := 7) (v := ?_) rfl (by kernel_rfl) (by kernel_rfl) (by kernel_rfl) (by kernel_rfl) (by kernel_rfl) (by kernel_rfl) (fun _ _ _ h => h) (Or.inl ⟨by rfl, ?_⟩) (by assumption) ?_
  rotate_left
  · (intro w hSw; (try dsimp only at hSw); go_split_ands; go_simp) <;> with_reducible rfl
  (try simp only [Act.put, List.setIfInBounds_toArray, List.set_cons_zero, List.set_cons_succ, List.getElem_toArray, List.getElem_cons_succ, List.getElem_cons_zero])
  refine Rg.take (i := 9) (v := ?_) rfl (by kernel_rfl) (by kernel_rfl) (by kernel_rfl) (by kernel_rfl) (by kernel_rfl) (by kernel_rfl) (fun _ _ _ h => h) (Or.inl ⟨by rfl, ?_⟩) (by assumption) ?_
  rotate_left
  · (intro w hSw; (try dsimp only at hSw); go_split_ands; go_simp) <;> with_reducible rfl
  (try simp only [Act.put, List.setIfInBounds_toArray, List.set_cons_zero, List.set_cons_succ, List.getElem_toArray, List.getElem_cons_succ, List.getElem_cons_zero])
  refine Rg.take (i := 10) (v := ?_) rfl (by kernel_rfl) (by kernel_rfl) (by kernel_rfl) (by kernel_rfl) (by kernel_rfl) (by kernel_rfl) (fun _ _ _ h => h) (Or.inl ⟨by rfl, ?_⟩) (by assumption) ?_
  rotate_left
  · (intro w hSw; (try dsimp only at hSw); go_split_ands; go_simp) <;> with_reducible rfl
  (try simp only [Act.put, List.setIfInBounds_toArray, List.set_cons_zero, List.set_cons_succ, List.getElem_toArray, List.getElem_cons_succ, List.getElem_cons_zero])
  refine Rg.take (i := 11) (v := ?_) rfl (by kernel_rfl) (by kernel_rfl) (by kernel_rfl) (by kernel_rfl) (by kernel_rfl) (by kernel_rfl) (fun _ _ _ h => h) (Or.inl ⟨by rfl, ?_⟩) (by assumption) ?_
  rotate_left
  · (intro w hSw; (try dsimp only at hSw); go_split_ands; go_simp) <;> with_reducible rfl
  (try simp only [Act.put, List.setIfInBounds_toArray, List.set_cons_zero, List.set_cons_succ, List.getElem_toArray, List.getElem_cons_succ, List.getElem_cons_zero])
  refine Rg.take (i := 12) (v := ?_) rfl (by kernel_rfl) (by kernel_rfl) (by kernel_rfl) (by kernel_rfl) (by kernel_rfl) (by kernel_rfl) (fun _ _ _ h => h) (Or.inl ⟨by rfl, ?_⟩) (by assumption) ?_
  rotate_left
  · (intro w hSw; (try dsimp only at hSw); go_split_ands; go_simp) <;> with_reducible rfl
  (try simp only [Act.put, List.setIfInBounds_toArray, List.set_cons_zero, List.set_cons_succ, List.getElem_toArray, List.getElem_cons_succ, List.getElem_cons_zero])
  refine Rg.take (i := 13) (v := ?_) rfl (by kernel_rfl) (by kernel_rfl) (by kernel_rfl) (by kernel_rfl) (by kernel_rfl) (by kernel_rfl) (fun _ _ _ h => h) (Or.inl ⟨by rfl, ?_⟩) (by assumption) ?_
  rotate_left
  · (intro w hSw; (try dsimp only at hSw); go_split_ands; go_simp) <;> with_reducible rfl
  (try simp only [Act.put, List.setIfInBounds_toArray, List.set_cons_zero, List.set_cons_succ, List.getElem_toArray, List.getElem_cons_succ, List.getElem_cons_zero])
  refine Rg.take (i := 14) (v := ?_) rfl (by kernel_rfl) (by kernel_rfl) (by kernel_rfl) (by kernel_rfl) (by kernel_rfl) (by kernel_rfl) (fun _ _ _ h => h) (Or.inl ⟨by rfl, ?_⟩) (by assumption) ?_
  rotate_left
  · (intro w hSw; (try dsimp only at hSw); go_split_ands; go_simp) <;> with_reducible rfl
  (try simp only [Act.put, List.setIfInBounds_toArray, List.set_cons_zero, List.set_cons_succ, List.getElem_toArray, List.getElem_cons_succ, List.getElem_cons_zero])
  refine Rg.one (i := 8) rfl (by kernel_rfl) (by kernel_rfl) (fun K hK => ?_)
  go_simp
  refine hK.out _ _ k2m (fun hHeld => ?_)
  clear hK K
  (try simp only [Act.put, List.setIfInBounds_toArray, List.set_cons_zero, List.set_cons_succ, List.getElem_toArray, List.getElem_cons_succ, List.getElem_cons_zero])
  refine Rg.one (i := 15) rfl (by kernel_rfl) (by kernel_rfl) (fun K hK => ?_)
  refine step_append_run rfl (.tmp 49) (.tmp 55) 75 rfl _ _ (by simp [Act.eval]) (by simp [Act.eval]) (fun v W => v = .slice (some A2) (1 + (l.length - i)) d2 ∧ W = y2) ⟨_, _, HR2.out.1, rfl, rfl⟩ ?_
  rintro v W ⟨rfl, rfl⟩
  refine hK.out _ _ k2n (fun hHeld => ?_)
  clear hK K
  (try simp only [Act.put, List.setIfInBounds_toArray, List.set_cons_zero, List.set_cons_succ, List.getElem_toArray, List.getElem_cons_succ, List.getElem_cons_zero])
  refine Rg.one (i := 16) rfl (by kernel_rfl) (by kernel_rfl) (fun K hK => ?_)
  refine step_append_run rfl (.tmp 47) (.tmp 56) 75 rfl _ _ (by simp [Act.eval]) (by simp [Act.eval]) (fun v W => v = .slice B2 (l.length + 1) e2 ∧ W = z2) ⟨_, _, HR2.out.2, rfl, rfl⟩ ?_
  rintro v W ⟨rfl, rfl⟩
  refine hK.out _ _ k2z (fun hHeld => ?_)
  clear hK K
  (try simp only [Act.put, List.setIfInBounds_toArray, List.set_cons_zero, List.set_cons_succ, List.getElem_toArray, List.getElem_cons_succ, List.getElem_cons_zero])
  refine Rg.rest _ rfl rfl (by kernel_rfl) (by kernel_rfl) ?_
  simp only [List.drop_succ_cons, List.drop_zero]
  clear hHeld
  go_wp2_with fail
  go_end0
  obtain ⟨nv, av, h⟩ := HF.out
  exact ⟨nv, av, rfl, h⟩
end Sb
end Go.Proofs.YtnkhfdnahnphdaaDoor
end
