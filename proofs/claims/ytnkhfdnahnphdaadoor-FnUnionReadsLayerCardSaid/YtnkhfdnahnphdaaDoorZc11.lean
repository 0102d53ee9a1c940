/- Parts of the proof, merged: UjWalk, WTab, WAt, WInv, WGuard, PFnUnionReadOnlyx0. -/
import Derived.ArgAppend
import Derived.Below
import Derived.BigQuiet
import Derived.Deep.AppendLies
import Derived.Deep.CutBlock
import Derived.Deep.DeepCutAuto
import Derived.Deep.Draws
import Derived.Deep.LoopGhost
import Derived.Deep.OwnRows
import Derived.Deep.QuietTactic
import Derived.Deep.RegionHeld3
import Derived.KernelRfl
import Derived.Laws.BitsLemmas
import Derived.Laws.BytesArg
import Derived.Laws.IdiomCopy
import Derived.Laws.MakeOwn
import Derived.Laws.OwnMore
import Derived.Laws.Rows
import Derived.Laws.Slices
import Derived.Laws.StructEq
import Derived.Lib.AppendStr
import Derived.Lib.ConvBytes
import Derived.Maps.AppendAt
import Derived.OrdersHeld
import Derived.OwnWalk
import Derived.RowKit
import Derived.RowKit3
import Derived.Tactics
import Derived.Test.YtnkhfdnahnphdaaDoorProg
import Derived.WalkKit
import Derived.WideLaws
import Derived.Test.YtnkhfdnahnphdaaDoorZc02
import Derived.Test.YtnkhfdnahnphdaaDoorZc03
import Derived.Test.YtnkhfdnahnphdaaDoorZc04
import Derived.Test.YtnkhfdnahnphdaaDoorZc10
section
namespace Go.Proofs.YtnkhfdnahnphdaaDoor
open Go.ChangeShapes Go.WideShapes Go.ChangeAt Go.RowKit Go.Rd
open Go.Proofs.YtnkhfdnahnphdaaDoorW.PrintWords Go.Proofs.YtnkhfdnahnphdaaDoorW.PrintLast Go.Proofs.YtnkhfdnahnphdaaDoorW.PrintMore
set_option linter.unusedVariables false
set_option linter.unusedSectionVars false
theorem doF_clro_at {p : St × St} {L : List Sx} (hc : p.2.cl = p.1.cl) (hr : p.2.ro = p.1.ro) : ∀ k, k ≤ L.length → (runP p (L.take k)).2.cl = (runP p (L.take k)).1.cl ∧ (runP p (L.take k)).2.ro = (runP p (L.take k)).1.ro := by
  intro k
  induction k with
  | zero => intro _; exact ⟨hc, hr⟩
  | succ k ih =>
    intro hk
    rw [runP_take _ _ _ (by omega)]
    obtain ⟨a, b⟩ := ih (by omega)
    exact doB_clro a b
/-- The frame's state in a round. -/
def ScriptU (w : World) (u f1 fd1 f2 fd2 : Nat) (p0 : St × St) (L : List Sx) (v : Value) (k : Nat) (wr : World) : Prop :=
  ∃ dv1 dv2, UQ wr w.heap.size u f1 fd1 f2 fd2 dv1 dv2 (runP p0 (L.take k)).2 (runP p0 (L.take k)).1 ∧ OwnRow (AnsN wr (fun j => Feet2 f1 fd1 f2 fd2 dv1 dv2 j ∨ v.ownBlock = some j)) 42 6 wr w.heap.size v (ansP p0 (L.take k)) ∧ Below w.heap.size w wr
section
variable {w wr : World} {u f1 fd1 f2 fd2 : Nat} {dv1 dv2 : Value} {p : St × St} {L : List Sx} {k : Nat}
/-- A step from the outside. -/
theorem woven_at (hsp : SpkAll p L) (hfit : FitL L) (h1 : Good 0 p.1) (h2 : Good 0 p.2) (hc : p.2.cl = p.1.cl) (hr : p.2.ro = p.1.ro) (hL : L.length ≤ 1000000) (hlt : k < L.length) (hQ : UQ wr w.heap.size u f1 fd1 f2 fd2 dv1 dv2 (runP p (L.take k)).2 (runP p (L.take k)).1) (hbk : BytesIn wr L[k].1.da L[k].1.dl L[k].1.dc L[k].2) (hlow : ∀ j, Feet2 f1 fd1 f2 fd2 dv1 dv2 j → w.heap.size ≤ j) (hB : Below w.heap.size w wr) (hse : ∃ ad, Sents w.heap.size w ad) (W : World) (hb : Below wr.heap.size wr W) :
    Calls Tryd.prog 30 #[.pointer (some ⟨u, 0, none⟩), L[k].1.val] W (WovenPost W w.heap.size u f1 fd1 f2 fd2 dv1 dv2 (doB (runP p (L.take k)).2 L[k] (doF (runP p (L.take k)).1 L[k]).1) (doF (runP p (L.take k)).1 L[k])) := by
  obtain ⟨ad, hS⟩ := hse
  have hBW := hB.trans (hb.mono hB.size)
  obtain ⟨g1, g2⟩ := good_at hsp hfit h1 h2 k (by omega)
  obtain ⟨a1, a2, a3⟩ := spk_at hsp k hlt
  obtain ⟨c1, c2⟩ := doF_clro_at (L := L) hc hr k (by omega)
  exact woven_ok w.heap.size u f1 fd1 f2 fd2 w.heap.size k ad dv1 dv2 _ _ L[k] W (hS.below hBW) hBW.size hlow (hQ.below hb) c1 c2 hBW.size g2 g1 (by omega) a2 a1 a3 (hbk.below hb)
theorem uq_row {B : Nat} {v : Value} {l : List Ans} {R : Ans → List Value → Prop} {s1 s2 : St} (hO : OwnRow R 42 6 wr B v l) (hQ : UQ wr w.heap.size u f1 fd1 f2 fd2 dv1 dv2 s1 s2) (j : Nat) (hj : v.ownBlock = some j) : u ≠ j ∧ ¬ Feet2 f1 fd1 f2 fd2 dv1 dv2 j := by
  obtain ⟨inner, hin, _⟩ := hO
  obtain ⟨c, hc⟩ := own_typed hin j hj
  exact hQ.typed_ne (Typed.of hc)
/-- Behind a step the answers are still there, and the new one lies apart. -/
theorem ansN_call {w2 : World} {v dv1' dv2' : Value} {l1 : List Ans} {a : Ans} {cs : List Value} {s1 s2 : St} (hO : OwnRow (AnsN wr (fun j => Feet2 f1 fd1 f2 fd2 dv1 dv2 j ∨ v.ownBlock = some j)) 42 6 wr w.heap.size v l1) (hQ : UQ wr w.heap.size u f1 fd1 f2 fd2 dv1 dv2 s1 s2)
    (hW : Wrote (Feet2 f1 fd1 f2 fd2 dv1 dv2) wr w2) (hn1 : NewOr wr dv1 dv1') (hn2 : NewOr wr dv2 dv2') (hA : AnsN w2 (fun k => Feet2 f1 fd1 f2 fd2 dv1' dv2' k ∨ k < wr.heap.size) a cs) :
    OwnRow (AnsN w2 (fun j => Feet2 f1 fd1 f2 fd2 dv1' dv2' j ∨ v.ownBlock = some j)) 42 6 w2 w.heap.size v l1 ∧ AnsN w2 (fun j => Feet2 f1 fd1 f2 fd2 dv1' dv2' j ∨ v.ownBlock = some j) a cs := by
  have hrow := fun j hj => (uq_row hO hQ j hj).2
  obtain ⟨inner, hin, hri⟩ := hO
  refine ⟨⟨inner, own_move hin (fun k hk => hW.block k (own_lt hin k hk) (hrow k hk)), hri.imp_ (fun p c hp => AnsN.step (S := fun j => Feet2 f1 fd1 f2 fd2 dv1 dv2 j ∨ v.ownBlock = some j) hp (hW.mono (fun k _ hk => .inl hk)) (fun k hk => ?_))⟩, AnsN.bad hA (fun k hk => ?_)⟩
  · by_cases hl : k < wr.heap.size
    · rcases hk with (hk | hk) | hk
      · exact .inl (.inl (.inl (feet_old' hn1 hl hk)))
      · exact .inl (.inl (.inr (feet_old' hn2 hl hk)))
      · exact .inl (.inr hk)
    · exact .inr (by omega)
  · rcases hk with hk | hk
    · exact .inl hk
    · exact .inr (own_lt hin k hk)
theorem ansN_grown {w2 w3 : World} {v : Value} {R : Ans → List Value → Prop} {l : List Ans} {s1 s2 : St} (hO : OwnRow R 42 6 w2 w.heap.size v l) (hQ : UQ w2 w.heap.size u f1 fd1 f2 fd2 dv1 dv2 s1 s2) (hg : w2.grownBy w3 v.ownBlock) : UQ w3 w.heap.size u f1 fd1 f2 fd2 dv1 dv2 s1 s2 := by
  have hr := fun j hj => uq_row hO hQ j hj
  refine hQ.wrote (wrote_grown hg) (fun e => (hr _ e).1 rfl) (fun e => (hr _ e).2 (.inl (.inl rfl))) (fun e => (hr _ e).2 (.inr (.inl rfl))) (fun e => (hr _ e).2 (.inl (.inr (.inl rfl)))) (fun e => (hr _ e).2 (.inr (.inr (.inl rfl)))) (fun k hk e => (hr _ e).2 (.inl (.inr (.inr hk)))) (fun k hk e => (hr _ e).2 (.inr (.inr (.inr hk))))
theorem ansN_append {w2 w3 : World} {v v1 : Value} {B : Nat} {F : Nat → Prop} {l : List Ans} (hO : OwnRow (AnsN w2 (fun j => F j ∨ v.ownBlock = some j)) 42 6 w3 B v1 l) (hg : w2.grownBy w3 v.ownBlock) (hat : v1.ownBlock = v.ownBlock ∨ ∃ b, v1.ownBlock = some b ∧ w2.heap.size ≤ b) :
    OwnRow (AnsN w3 (fun j => F j ∨ v1.ownBlock = some j)) 42 6 w3 B v1 l :=
  hO.imp_ (fun p c hp => AnsN.step (S := fun j => F j ∨ v.ownBlock = some j) hp ((wrote_grown hg).mono (fun k _ hk => .inr hk)) (fun k hk => by
    rcases hk with hk | hk
    · exact .inl (.inl hk)
    · rcases hat with h | ⟨b, h, hb⟩
      · exact .inl (.inr (h ▸ hk))
      · rw [h] at hk; injection hk with hk; exact .inr (by omega)))
theorem uq_start {w1 w2 w3 w4 w8 : World} {A1 A2 : Option Addr} {dm c1 em c2 : Nat} {lay bas : List Int} {ro : Bool} {xs : List Value} (hB2 : Below w.heap.size w w2) (hD2 : DataIs w2 w.heap.size fd2 (.slice A1 dm c1) (St.fd ⟨0, false, false, lay⟩)) (hfd2 : w1.heap.size ≤ fd2) (ho3 : w3.ownsRow w2.heap.size 5 1 (.slice A2 em c2) em xs) (hD4 : DataIs w4 w2.heap.size fd1 (.slice A2 em c2) (St.fd ⟨0, false, false, bas⟩)) (hfd1 : w3.heap.size ≤ fd1) (hB3 : Below w2.heap.size w2 w3) (hB4 : Below w3.heap.size w3 w4) (hB8 : Below w4.heap.size w4 w8)
    (hH1 : HandleIs w8 f1 ⟨0, 0, false, ro, fd1⟩) (h1 : f1 < f2) (hH2 : HandleIs w8 f2 ⟨0, 0, false, ro, fd2⟩) (h2 : True) (h3 : True) :
    UQ (w8.alloc (.cells #[.pointer (some ⟨f1, 0, none⟩), .pointer (some ⟨f2, 0, none⟩), .int .i64 0, .slice none 0 0] tUF)) w.heap.size w8.heap.size f1 fd1 f2 fd2 (.slice A2 em c2) (.slice A1 dm c1) ⟨0, false, ro, bas⟩ ⟨0, false, ro, lay⟩ := by
  have ha : Below w8.heap.size w8 (w8.alloc (.cells #[.pointer (some ⟨f1, 0, none⟩), .pointer (some ⟨f2, 0, none⟩), .int .i64 0, .slice none 0 0] tUF)) := (Below.refl _ _).alloc (Nat.le_refl _) _
  have hB24 : Below w2.heap.size w2 w4 := hB3.trans (hB4.mono hB3.size)
  have hB28 : Below w2.heap.size w2 w8 := hB24.trans (hB8.mono hB24.size)
  have hD2' := (hD2.below hB28).below ha
  have hD4' := (hD4.below hB8).below ha
  have hl := lt_of_heap hD2.1
  refine ⟨alloc_new _ _, .of (hH1.below ha), ⟨hD4'.1, row_le hD4'.2.1 hB2.size, hD4'.2.2⟩, .of (hH2.below ha), hD2', by omega, by have := hB3.size; omega, fun k hk e => ?_⟩
  have := own_base hD4.2.1 k hk
  have := own_lt hD2.2.1 k e
  omega
end
set_option maxRecDepth 100000 in
set_option maxHeartbeats 4000000 in
theorem union_script (dA : Option Addr) (dm dc : Nat) (lay : List Int) (eA : Option Addr) (em ec : Nat) (bas : List Int) (ro : Bool) (A : Option Addr) (c : Nat) (L : List Sx) (w : World) (hb1 : BytesIn w dA dm dc lay) (hb2 : BytesIn w eA em ec bas) (hdm : dm ≤ 4096) (hem : em ≤ 4096)
    (hS : ReadsRow (StepK w) 10 w A L.length L) (hL : L.length ≤ 1000000) (hsp : Hid (SpkAll (⟨0, false, ro, lay⟩, ⟨0, false, ro, bas⟩) L)) (hfit : Hid (FitL L)) (hse : Hid (∃ ad, Sents w.heap.size w ad)) :
    Calls Tryd.prog 17 #[.slice dA dm dc, .slice eA em ec, .bool ro, .slice A L.length c] w fun e w' => ∃ v lA lc bA bc, e = .returned (.tuple #[v, .slice lA (runP (⟨0, false, ro, lay⟩, ⟨0, false, ro, bas⟩) L).1.bs.length lc, .slice bA (runP (⟨0, false, ro, lay⟩, ⟨0, false, ro, bas⟩) L).2.bs.length bc]) ∧
      OwnRow (AnsN w' (fun _ => False)) 42 6 w' w.heap.size v (ansP (⟨0, false, ro, lay⟩, ⟨0, false, ro, bas⟩) L) ∧ BytesIn w' lA (runP (⟨0, false, ro, lay⟩, ⟨0, false, ro, bas⟩) L).1.bs.length lc (runP (⟨0, false, ro, lay⟩, ⟨0, false, ro, bas⟩) L).1.bs ∧ BytesIn w' bA (runP (⟨0, false, ro, lay⟩, ⟨0, false, ro, bas⟩) L).2.bs.length bc (runP (⟨0, false, ro, lay⟩, ⟨0, false, ro, bas⟩) L).2.bs ∧ Below w.heap.size w w' := by
  have hg1' : Good 0 (⟨0, false, ro, lay⟩ : St) := ⟨by have := hb1.len; simp only; omega, by simp, by simp, hb1.fits⟩
  have hg2' : Good 0 (⟨0, false, ro, bas⟩ : St) := ⟨by have := hb2.len; simp only; omega, by simp, by simp, hb2.fits⟩
  have hgE : Hid ((runP (⟨0, false, ro, lay⟩, ⟨0, false, ro, bas⟩) L).1.bs.length ≤ 8192 ∧ (runP (⟨0, false, ro, lay⟩, ⟨0, false, ro, bas⟩) L).2.bs.length ≤ 8192) := by
    have := good_at hsp.out hfit.out hg1' hg2' L.length (Nat.le_refl _)
    rw [List.take_length] at this
    exact ⟨this.1.len, this.2.len⟩
  cases ro with
  | true =>
    go_enter Tryd.func17, Tryd.ntmps17
    go_wp2_with (first
      | (go_at_call 22; refine (new_reader fd2 w7).mono ?_; rintro e w8 ⟨f2, rfl, hH8, hf8, hB8⟩)
      | (go_at_call 22; refine (new_reader fd1 _).mono ?_; rintro e w7 ⟨f1, rfl, hH7, hf7, hB7⟩)
      | (go_at_call 21; refine (new_handle fd2 w5).mono ?_; rintro e w6 ⟨g2, rfl, _, _, hB6⟩)
      | (go_at_call 21; refine (new_handle fd1 w4).mono ?_; rintro e w5 ⟨g1, rfl, _, _, hB5⟩)
      | (go_at_call 20; refine (door_with A2 em c2 bas w3 w2.heap.size ho3 hb2.fits).mono ?_; rintro e w4 ⟨fd1, rfl, hD4, hfd4, hB4⟩)
      | (at_builtin; refine append_src rfl (.const (.slice none 0 0)) (.tmp 20) 22 rfl w2.heap.size 5 _ (.int .u8 0) 1 1 Tryd.underlying22 rfl rfl rfl rfl rfl (by decide) (.slice none 0 0) 0 [] rfl (World.ownsRow_nil _ _ _ _) eA em ec (bas.map (Value.int .u8)) rfl (hb2w.src).1 hb2w.nil hb2w.cells (hb2w.src).2.2.2 (by unfold maxLen; omega) (by omega) (Nat.le_refl _) ?_; intro v2 w3 ho3 hg3; rw [Nat.zero_add, List.nil_append] at ho3; obtain ⟨A2, c2, eA2⟩ := own_slice ho3; subst eA2; have hBw3 : Below w2.heap.size w2 w3 := ⟨hg3.os, hg3.tape, hg3.output, hg3.size, fun k hk => hg3.block k hk (by simp [Value.ownBlock])⟩)
      | (go_at_call 20; refine (door_with A1 dm c1 lay w1 w.heap.size ho1 hb1.fits).mono ?_; rintro e w2 ⟨fd2, rfl, hD2, hfd2, hB2⟩; have hBw2 := hBw1.trans (hB2.mono hBw1.size); have hb2w := hb2.below hBw2)
      | (at_builtin; refine append_src rfl (.const (.slice none 0 0)) (.tmp 17) 22 rfl w.heap.size 5 _ (.int .u8 0) 1 1 Tryd.underlying22 rfl rfl rfl rfl rfl (by decide) (.slice none 0 0) 0 [] rfl (World.ownsRow_nil _ _ _ _) dA dm dc (lay.map (Value.int .u8)) rfl (hb1.src).1 hb1.nil hb1.cells (hb1.src).2.2.2 (by unfold maxLen; omega) (by omega) (Nat.le_refl _) ?_; intro v1 w1 ho1 hg1; rw [Nat.zero_add, List.nil_append] at ho1; obtain ⟨A1, c1, eA1⟩ := own_slice ho1; subst eA1; have hBw1 : Below w.heap.size w w1 := ⟨hg1.os, hg1.tape, hg1.output, hg1.size, fun k hk => hg1.block k hk (by simp [Value.ownBlock])⟩))
    have hBw4 : Below w.heap.size w w4 := hBw2.trans ((hBw3.trans (hB4.mono hBw3.size)).mono hBw2.size)
    have hBw6 : Below w4.heap.size w4 w6 := hB5.trans (hB6.mono hB5.size)
    have hBw6' := hBw6.alloc hBw6.size (.cells #[.pointer (some ⟨g1, 0, none⟩), .pointer (some ⟨g2, 0, none⟩), .int .i64 0, .slice none 0 0] 83)
    have hBw8 : Below w4.heap.size w4 w8 := hBw6'.trans ((hB7.trans (hB8.mono hB7.size)).mono hBw6'.size)
    have hQ0 := uq_start hBw2 hD2 hfd2 ho3 hD4 hfd4 hBw3 hB4 hBw8 (hH7.below hB8) (by have := hB7.size; have := lt_of_heap hH7; omega) hH8 trivial trivial
    have hf1' : w.heap.size ≤ f1 := by have := hBw4.size; have := hBw6'.size; omega
    have hf2' : w.heap.size ≤ f2 := by have := hBw4.size; have := hBw8.size; have := hBw6'.size; have := hB7.size; omega
    have hBz : Below w.heap.size w (w8.alloc (.cells #[.pointer (some ⟨f1, 0, none⟩), .pointer (some ⟨f2, 0, none⟩), .int .i64 0, .slice none 0 0] 83)) := (hBw4.trans (hBw8.mono hBw4.size)).alloc (hBw4.trans (hBw8.mono hBw4.size)).size _
    have hfd1' : w.heap.size ≤ fd1 := by have := hBw2.size; have := hBw3.size; omega
    have hfd2' : w.heap.size ≤ fd2 := by have := hBw1.size; omega
    have HQ0 := Lib.hid hQ0
    have HBZ := Lib.hid hBz
    clear hQ0 hBz
    go_loopw [14, 38] (fun v i wr => ∃ k : Nat, k ≤ L.length ∧ i = .int .i64 k ∧ ScriptU w w8.heap.size f1 fd1 f2 fd2 (⟨0, false, true, lay⟩, ⟨0, false, true, bas⟩) L v k wr) (fun _ i _ => L.length - (intOf i).toNat)
    case atStart => exact ⟨0, Nat.zero_le _, rfl, _, _, HQ0.out, OwnRow.none_ _ _ _ _ _, HBZ.out⟩
    case round =>
      obtain ⟨k, hk, rfl, dv1, dv2, hQ, hO, hB⟩ := hrel
      have hlow : ∀ j, Feet2 f1 fd1 f2 fd2 dv1 dv2 j → w.heap.size ≤ j := hQ.low hf1' hfd1' hf2' hfd2' (Nat.le_refl _)
      by_cases hlt : k < L.length
      · obtain ⟨b, off, eA, hbl, hbk, x0, x1, x2, x3, x4, x5, x6, x7, x8, x9⟩ := steps_at hS k hlt
        subst eA
        have hBC : ∀ j v, w.cell? ⟨b, j, none⟩ = some v → wr.cell? ⟨b, j, none⟩ = some v := fun j v h => (hB.cell (p := ⟨b, j, none⟩) hbl).trans h
        have y0 := hBC _ _ x0
        have y1 := hBC _ _ x1
        have y2 := hBC _ _ x2
        have y3 := hBC _ _ x3
        have y4 := hBC _ _ x4
        have y5 := hBC _ _ x5
        have y6 := hBC _ _ x6
        have y7 := hBC _ _ x7
        have y8 := hBC _ _ x8
        have y9 := hBC _ _ x9
        clear hBC x0 x1 x2 x3 x4 x5 x6 x7 x8 x9
        have hbk' := hbk.below hB
        have hst := fun W (hb : Below wr.heap.size wr W) => woven_at (u := w8.heap.size) hsp.out hfit.out hg1' hg2' rfl rfl hL hlt hQ hbk' hlow hB hse.out W hb
        have hbox : ∀ o, OwnRow (AnsN (wr.alloc o) (fun j => Feet2 f1 fd1 f2 fd2 dv1 dv2 j ∨ u14.ownBlock = some j)) 42 6 (wr.alloc o) w.heap.size u14 (ansP (⟨0, false, true, lay⟩, ⟨0, false, true, bas⟩) (L.take k)) := fun o => (hO.imp_ (fun p c hp => AnsN.below hp ((Below.refl _ _).alloc (Nat.le_refl _) o))).below ((Below.refl _ _).alloc (Nat.le_refl _) o)
        have hl1 : (ansP (⟨0, false, true, lay⟩, ⟨0, false, true, bas⟩) (L.take k)).length = k := by rw [ansP_length]; simp; omega
        have eA := ansP_take (⟨0, false, true, lay⟩, ⟨0, false, true, bas⟩) L k hlt
        have eR := runP_take (⟨0, false, true, lay⟩, ⟨0, false, true, bas⟩) L k hlt
        have HST := Lib.hid hst
        have HEA := Lib.hid eA
        have HER := Lib.hid eR
        have HQ := Lib.hid hQ
        clear hst eA eR hO hQ
        generalize ansP (⟨0, false, true, lay⟩, ⟨0, false, true, bas⟩) (L.take k) = l1 at *
        generalize hD : doF (runP (⟨0, false, true, lay⟩, ⟨0, false, true, bas⟩) (L.take k)).1 L[k] = D at *
        have HDD := Lib.hid hD
        clear hD
        go_wp2_with (first
          | (go_at_call 30; refine (HST.out _ ((Below.refl _ _).alloc (Nat.le_refl _) _)).mono ?_; rintro e w4' ⟨cs, rfl, dv1', dv2', hQ4, hW4, hn1, hn2, hA4⟩; obtain ⟨hO4, hA4'⟩ := ansN_call (hbox _) (HQ.out.below ((Below.refl _ _).alloc (Nat.le_refl _) _)) hW4 hn1 hn2 hA4; have hB4' : Below w.heap.size w w4' := (hB.alloc hB.size _).trans (hW4.below (by have := hB.size; simp; omega) (fun j hj hs => by have := hlow j hs; omega)); have hA6 := id hA4'; obtain ⟨Aa, ca, na, nc, ecs, hba, hna⟩ := hA6; subst ecs; have HQ4 := Lib.hid hQ4; clear hA4 hba hna hn1 hn2 hW4 hQ4)
          | (at_builtin; refine OwnRow.append (w0 := w) (R := AnsN w4' (fun j => Feet2 f1 fd1 f2 fd2 dv1' dv2' j ∨ u14.ownBlock = some j)) w.heap.size rfl (.tmp 42) (.tmp 46) 36 42 (.agg #[.int .i64 0, .int .i64 0, .int .i64 0, .slice none 0 0, .slice none 0 0, .slice none 0 0]) 6 96 rfl Tryd.underlying36 info42' rfl (by decide) (by decide) u14 l1 D.1 [.int .i64 D.1.e, .int .i64 D.1.n, .int .i64 D.1.off, .slice Aa D.1.data.length ca, .slice na 0 nc, .slice none 0 0] rfl (by simp [Act.eval]) hA4' rfl (AnsN.one hA4') hO4 hB4' hB4'.size (by omega) ?_; intro v5 w5' hO5 hB5' hg5 hat5))
        go_roundw
        case rel =>
          refine ⟨k + 1, by omega, by go_num, dv1', dv2', ?_, ?_, hB5'⟩
          · rw [HER.out]
            have h := ansN_grown hO4 HQ4.out hg5
            rw [← HDD.out] at h
            exact h
          · rw [HEA.out]
            exact ansN_append hO5 hg5 hat5
        case measure => simp [intOf]; omega
      · obtain rfl : k = L.length := by omega
        rw [List.take_length] at hQ hO
        have hn1 : (runP (⟨0, false, true, lay⟩, ⟨0, false, true, bas⟩) L).1.bs.length ≤ 8192 := hgE.out.1
        have hn2 : (runP (⟨0, false, true, lay⟩, ⟨0, false, true, bas⟩) L).2.bs.length ≤ 8192 := hgE.out.2
        obtain ⟨⟨r2, r1⟩, hR⟩ : ∃ R, runP (⟨0, false, true, lay⟩, ⟨0, false, true, bas⟩) L = R := ⟨_, rfl⟩
        obtain ⟨l1, hl1⟩ : ∃ l1, ansP (⟨0, false, true, lay⟩, ⟨0, false, true, bas⟩) L = l1 := ⟨_, rfl⟩
        rw [hR] at hn1 hn2 hQ
        rw [hl1] at hO
        have HR := Lib.hid hR
        have HL1 := Lib.hid hl1
        simp only at hn1 hn2 hQ
        clear hR hl1
        obtain ⟨Aa, ca, rfl, hba⟩ := BytesIn.own (show wr.ownsRow w.heap.size tU8 1 dv2 r2.bs.length (r2.bs.map (Value.int .u8)) from hQ.d2.2.1) hQ.d2.2.2
        obtain ⟨Ab, cb, rfl, hbb⟩ := BytesIn.own (show wr.ownsRow w.heap.size tU8 1 dv1 r1.bs.length (r1.bs.map (Value.int .u8)) from hQ.d1.2.1) hQ.d1.2.2
        have HQ := Lib.hid hQ
        have HO := Lib.hid hO
        clear hQ hO hlow
        go_wp2_with (first
          | (go_at_call 24; refine (door_bytes fd1 w.heap.size _ r1.fd w5' (HQ.out.d1.below hB5')).mono ?_; rintro e w6' ⟨rfl, rfl⟩)
          | (go_at_call 24; refine (door_bytes fd2 w.heap.size _ r2.fd wr HQ.out.d2).mono ?_; rintro e w4' ⟨rfl, rfl⟩)
          | (at_builtin; refine append_src rfl (.const (.slice none 0 0)) (.tmp 54) 22 rfl w5'.heap.size 5 _ (.int .u8 0) 1 1 Tryd.underlying22 rfl rfl rfl rfl rfl (by decide) (.slice none 0 0) 0 [] rfl (World.ownsRow_nil _ _ _ _) Ab r1.bs.length cb (r1.bs.map (Value.int .u8)) rfl (hbb.src).1 hbb.nil (hbb.below hB5').cells (hbb.src).2.2.2 (by unfold maxLen; omega) (by omega) (Nat.le_refl _) ?_; intro v7 w7' ho7 hg7; rw [Nat.zero_add, List.nil_append] at ho7; obtain ⟨A7, c7, e7, hb7⟩ := BytesIn.own ho7 HQ.out.d1.2.2; subst e7; have hB7' : Below w5'.heap.size w5' w7' := ⟨hg7.os, hg7.tape, hg7.output, hg7.size, fun k hk => hg7.block k hk (by simp [Value.ownBlock])⟩)
          | (at_builtin; refine append_src rfl (.const (.slice none 0 0)) (.tmp 51) 22 rfl wr.heap.size 5 _ (.int .u8 0) 1 1 Tryd.underlying22 rfl rfl rfl rfl rfl (by decide) (.slice none 0 0) 0 [] rfl (World.ownsRow_nil _ _ _ _) Aa r2.bs.length ca (r2.bs.map (Value.int .u8)) rfl (hba.src).1 hba.nil hba.cells (hba.src).2.2.2 (by unfold maxLen; omega) (by omega) (Nat.le_refl _) ?_; intro v5 w5' ho5 hg5; rw [Nat.zero_add, List.nil_append] at ho5; obtain ⟨A5, c5, e5, hb5⟩ := BytesIn.own ho5 HQ.out.d2.2.2; subst e5; have hB5' : Below wr.heap.size wr w5' := ⟨hg5.os, hg5.tape, hg5.output, hg5.size, fun k hk => hg5.block k hk (by simp [Value.ownBlock])⟩))
        refine bodyPost_ret (v := .tuple #[u14, .slice A5 r2.bs.length c5, .slice A7 r1.bs.length c7]) (by simp [results, Tryd.results17, go_sem]) rfl ?_
        have hB57 : Below wr.heap.size wr w7' := hB5'.trans (hB7'.mono hB5'.size)
        rw [HR.out, HL1.out]
        exact ⟨_, A5, c5, A7, c7, rfl, ((HO.out.imp_ (fun p c hp => AnsN.bad (AnsN.below hp hB57) (fun _ h => h.elim))).below hB57), hb5.below hB7', hb7, hB.trans (hB57.mono hB.size)⟩
  | false =>
    go_enter Tryd.func17, Tryd.ntmps17
    go_wp2_with (first
      | (go_at_call 21; refine (new_handle fd2 w5).mono ?_; rintro e w6 ⟨f2, rfl, hH6, hf6, hB6⟩)
      | (go_at_call 21; refine (new_handle fd1 w4).mono ?_; rintro e w5 ⟨f1, rfl, hH5, hf5, hB5⟩)
      | (go_at_call 20; refine (door_with A2 em c2 bas w3 w2.heap.size ho3 hb2.fits).mono ?_; rintro e w4 ⟨fd1, rfl, hD4, hfd4, hB4⟩)
      | (at_builtin; refine append_src rfl (.const (.slice none 0 0)) (.tmp 20) 22 rfl w2.heap.size 5 _ (.int .u8 0) 1 1 Tryd.underlying22 rfl rfl rfl rfl rfl (by decide) (.slice none 0 0) 0 [] rfl (World.ownsRow_nil _ _ _ _) eA em ec (bas.map (Value.int .u8)) rfl (hb2w.src).1 hb2w.nil hb2w.cells (hb2w.src).2.2.2 (by unfold maxLen; omega) (by omega) (Nat.le_refl _) ?_; intro v2 w3 ho3 hg3; rw [Nat.zero_add, List.nil_append] at ho3; obtain ⟨A2, c2, eA2⟩ := own_slice ho3; subst eA2; have hBw3 : Below w2.heap.size w2 w3 := ⟨hg3.os, hg3.tape, hg3.output, hg3.size, fun k hk => hg3.block k hk (by simp [Value.ownBlock])⟩)
      | (go_at_call 20; refine (door_with A1 dm c1 lay w1 w.heap.size ho1 hb1.fits).mono ?_; rintro e w2 ⟨fd2, rfl, hD2, hfd2, hB2⟩; have hBw2 := hBw1.trans (hB2.mono hBw1.size); have hb2w := hb2.below hBw2)
      | (at_builtin; refine append_src rfl (.const (.slice none 0 0)) (.tmp 17) 22 rfl w.heap.size 5 _ (.int .u8 0) 1 1 Tryd.underlying22 rfl rfl rfl rfl rfl (by decide) (.slice none 0 0) 0 [] rfl (World.ownsRow_nil _ _ _ _) dA dm dc (lay.map (Value.int .u8)) rfl (hb1.src).1 hb1.nil hb1.cells (hb1.src).2.2.2 (by unfold maxLen; omega) (by omega) (Nat.le_refl _) ?_; intro v1 w1 ho1 hg1; rw [Nat.zero_add, List.nil_append] at ho1; obtain ⟨A1, c1, eA1⟩ := own_slice ho1; subst eA1; have hBw1 : Below w.heap.size w w1 := ⟨hg1.os, hg1.tape, hg1.output, hg1.size, fun k hk => hg1.block k hk (by simp [Value.ownBlock])⟩))
    have hBw4 : Below w.heap.size w w4 := hBw2.trans ((hBw3.trans (hB4.mono hBw3.size)).mono hBw2.size)
    have hBw6 : Below w4.heap.size w4 w6 := hB5.trans (hB6.mono hB5.size)
    have hQ0 := uq_start hBw2 hD2 hfd2 ho3 hD4 hfd4 hBw3 hB4 hBw6 (hH5.below hB6) (by have := hB5.size; have := lt_of_heap hH5; omega) hH6 trivial trivial
    have hf1' : w.heap.size ≤ f1 := by have := hBw4.size; omega
    have hf2' : w.heap.size ≤ f2 := by have := hBw4.size; have := hBw6.size; have := hB5.size; omega
    have hBz : Below w.heap.size w (w6.alloc (.cells #[.pointer (some ⟨f1, 0, none⟩), .pointer (some ⟨f2, 0, none⟩), .int .i64 0, .slice none 0 0] 83)) := (hBw4.trans (hBw6.mono hBw4.size)).alloc (hBw4.trans (hBw6.mono hBw4.size)).size _
    have hfd1' : w.heap.size ≤ fd1 := by have := hBw2.size; have := hBw3.size; omega
    have hfd2' : w.heap.size ≤ fd2 := by have := hBw1.size; omega
    have HQ0 := Lib.hid hQ0
    have HBZ := Lib.hid hBz
    clear hQ0 hBz
    go_loopw [14, 38] (fun v i wr => ∃ k : Nat, k ≤ L.length ∧ i = .int .i64 k ∧ ScriptU w w6.heap.size f1 fd1 f2 fd2 (⟨0, false, false, lay⟩, ⟨0, false, false, bas⟩) L v k wr) (fun _ i _ => L.length - (intOf i).toNat)
    case atStart => exact ⟨0, Nat.zero_le _, rfl, _, _, HQ0.out, OwnRow.none_ _ _ _ _ _, HBZ.out⟩
    case round =>
      obtain ⟨k, hk, rfl, dv1, dv2, hQ, hO, hB⟩ := hrel
      have hlow : ∀ j, Feet2 f1 fd1 f2 fd2 dv1 dv2 j → w.heap.size ≤ j := hQ.low hf1' hfd1' hf2' hfd2' (Nat.le_refl _)
      by_cases hlt : k < L.length
      · obtain ⟨b, off, eA, hbl, hbk, x0, x1, x2, x3, x4, x5, x6, x7, x8, x9⟩ := steps_at hS k hlt
        subst eA
        have hBC : ∀ j v, w.cell? ⟨b, j, none⟩ = some v → wr.cell? ⟨b, j, none⟩ = some v := fun j v h => (hB.cell (p := ⟨b, j, none⟩) hbl).trans h
        have y0 := hBC _ _ x0
        have y1 := hBC _ _ x1
        have y2 := hBC _ _ x2
        have y3 := hBC _ _ x3
        have y4 := hBC _ _ x4
        have y5 := hBC _ _ x5
        have y6 := hBC _ _ x6
        have y7 := hBC _ _ x7
        have y8 := hBC _ _ x8
        have y9 := hBC _ _ x9
        clear hBC x0 x1 x2 x3 x4 x5 x6 x7 x8 x9
        have hbk' := hbk.below hB
        have hst := fun W (hb : Below wr.heap.size wr W) => woven_at (u := w6.heap.size) hsp.out hfit.out hg1' hg2' rfl rfl hL hlt hQ hbk' hlow hB hse.out W hb
        have hbox : ∀ o, OwnRow (AnsN (wr.alloc o) (fun j => Feet2 f1 fd1 f2 fd2 dv1 dv2 j ∨ u14.ownBlock = some j)) 42 6 (wr.alloc o) w.heap.size u14 (ansP (⟨0, false, false, lay⟩, ⟨0, false, false, bas⟩) (L.take k)) := fun o => (hO.imp_ (fun p c hp => AnsN.below hp ((Below.refl _ _).alloc (Nat.le_refl _) o))).below ((Below.refl _ _).alloc (Nat.le_refl _) o)
        have hl1 : (ansP (⟨0, false, false, lay⟩, ⟨0, false, false, bas⟩) (L.take k)).length = k := by rw [ansP_length]; simp; omega
        have eA := ansP_take (⟨0, false, false, lay⟩, ⟨0, false, false, bas⟩) L k hlt
        have eR := runP_take (⟨0, false, false, lay⟩, ⟨0, false, false, bas⟩) L k hlt
        have HST := Lib.hid hst
        have HEA := Lib.hid eA
        have HER := Lib.hid eR
        have HQ := Lib.hid hQ
        clear hst eA eR hO hQ
        generalize ansP (⟨0, false, false, lay⟩, ⟨0, false, false, bas⟩) (L.take k) = l1 at *
        generalize hD : doF (runP (⟨0, false, false, lay⟩, ⟨0, false, false, bas⟩) (L.take k)).1 L[k] = D at *
        have HDD := Lib.hid hD
        clear hD
        go_wp2_with (first
          | (go_at_call 30; refine (HST.out _ ((Below.refl _ _).alloc (Nat.le_refl _) _)).mono ?_; rintro e w4' ⟨cs, rfl, dv1', dv2', hQ4, hW4, hn1, hn2, hA4⟩; obtain ⟨hO4, hA4'⟩ := ansN_call (hbox _) (HQ.out.below ((Below.refl _ _).alloc (Nat.le_refl _) _)) hW4 hn1 hn2 hA4; have hB4' : Below w.heap.size w w4' := (hB.alloc hB.size _).trans (hW4.below (by have := hB.size; simp; omega) (fun j hj hs => by have := hlow j hs; omega)); have hA6 := id hA4'; obtain ⟨Aa, ca, na, nc, ecs, hba, hna⟩ := hA6; subst ecs; have HQ4 := Lib.hid hQ4; clear hA4 hba hna hn1 hn2 hW4 hQ4)
          | (at_builtin; refine OwnRow.append (w0 := w) (R := AnsN w4' (fun j => Feet2 f1 fd1 f2 fd2 dv1' dv2' j ∨ u14.ownBlock = some j)) w.heap.size rfl (.tmp 42) (.tmp 46) 36 42 (.agg #[.int .i64 0, .int .i64 0, .int .i64 0, .slice none 0 0, .slice none 0 0, .slice none 0 0]) 6 96 rfl Tryd.underlying36 info42' rfl (by decide) (by decide) u14 l1 D.1 [.int .i64 D.1.e, .int .i64 D.1.n, .int .i64 D.1.off, .slice Aa D.1.data.length ca, .slice na 0 nc, .slice none 0 0] rfl (by simp [Act.eval]) hA4' rfl (AnsN.one hA4') hO4 hB4' hB4'.size (by omega) ?_; intro v5 w5' hO5 hB5' hg5 hat5))
        go_roundw
        case rel =>
          refine ⟨k + 1, by omega, by go_num, dv1', dv2', ?_, ?_, hB5'⟩
          · rw [HER.out]
            have h := ansN_grown hO4 HQ4.out hg5
            rw [← HDD.out] at h
            exact h
          · rw [HEA.out]
            exact ansN_append hO5 hg5 hat5
        case measure => simp [intOf]; omega
      · obtain rfl : k = L.length := by omega
        rw [List.take_length] at hQ hO
        have hn1 : (runP (⟨0, false, false, lay⟩, ⟨0, false, false, bas⟩) L).1.bs.length ≤ 8192 := hgE.out.1
        have hn2 : (runP (⟨0, false, false, lay⟩, ⟨0, false, false, bas⟩) L).2.bs.length ≤ 8192 := hgE.out.2
        obtain ⟨⟨r2, r1⟩, hR⟩ : ∃ R, runP (⟨0, false, false, lay⟩, ⟨0, false, false, bas⟩) L = R := ⟨_, rfl⟩
        obtain ⟨l1, hl1⟩ : ∃ l1, ansP (⟨0, false, false, lay⟩, ⟨0, false, false, bas⟩) L = l1 := ⟨_, rfl⟩
        rw [hR] at hn1 hn2 hQ
        rw [hl1] at hO
        have HR := Lib.hid hR
        have HL1 := Lib.hid hl1
        simp only at hn1 hn2 hQ
        clear hR hl1
        obtain ⟨Aa, ca, rfl, hba⟩ := BytesIn.own (show wr.ownsRow w.heap.size tU8 1 dv2 r2.bs.length (r2.bs.map (Value.int .u8)) from hQ.d2.2.1) hQ.d2.2.2
        obtain ⟨Ab, cb, rfl, hbb⟩ := BytesIn.own (show wr.ownsRow w.heap.size tU8 1 dv1 r1.bs.length (r1.bs.map (Value.int .u8)) from hQ.d1.2.1) hQ.d1.2.2
        have HQ := Lib.hid hQ
        have HO := Lib.hid hO
        clear hQ hO hlow
        go_wp2_with (first
          | (go_at_call 24; refine (door_bytes fd1 w.heap.size _ r1.fd w5' (HQ.out.d1.below hB5')).mono ?_; rintro e w6' ⟨rfl, rfl⟩)
          | (go_at_call 24; refine (door_bytes fd2 w.heap.size _ r2.fd wr HQ.out.d2).mono ?_; rintro e w4' ⟨rfl, rfl⟩)
          | (at_builtin; refine append_src rfl (.const (.slice none 0 0)) (.tmp 54) 22 rfl w5'.heap.size 5 _ (.int .u8 0) 1 1 Tryd.underlying22 rfl rfl rfl rfl rfl (by decide) (.slice none 0 0) 0 [] rfl (World.ownsRow_nil _ _ _ _) Ab r1.bs.length cb (r1.bs.map (Value.int .u8)) rfl (hbb.src).1 hbb.nil (hbb.below hB5').cells (hbb.src).2.2.2 (by unfold maxLen; omega) (by omega) (Nat.le_refl _) ?_; intro v7 w7' ho7 hg7; rw [Nat.zero_add, List.nil_append] at ho7; obtain ⟨A7, c7, e7, hb7⟩ := BytesIn.own ho7 HQ.out.d1.2.2; subst e7; have hB7' : Below w5'.heap.size w5' w7' := ⟨hg7.os, hg7.tape, hg7.output, hg7.size, fun k hk => hg7.block k hk (by simp [Value.ownBlock])⟩)
          | (at_builtin; refine append_src rfl (.const (.slice none 0 0)) (.tmp 51) 22 rfl wr.heap.size 5 _ (.int .u8 0) 1 1 Tryd.underlying22 rfl rfl rfl rfl rfl (by decide) (.slice none 0 0) 0 [] rfl (World.ownsRow_nil _ _ _ _) Aa r2.bs.length ca (r2.bs.map (Value.int .u8)) rfl (hba.src).1 hba.nil hba.cells (hba.src).2.2.2 (by unfold maxLen; omega) (by omega) (Nat.le_refl _) ?_; intro v5 w5' ho5 hg5; rw [Nat.zero_add, List.nil_append] at ho5; obtain ⟨A5, c5, e5, hb5⟩ := BytesIn.own ho5 HQ.out.d2.2.2; subst e5; have hB5' : Below wr.heap.size wr w5' := ⟨hg5.os, hg5.tape, hg5.output, hg5.size, fun k hk => hg5.block k hk (by simp [Value.ownBlock])⟩))
        refine bodyPost_ret (v := .tuple #[u14, .slice A5 r2.bs.length c5, .slice A7 r1.bs.length c7]) (by simp [results, Tryd.results17, go_sem]) rfl ?_
        have hB57 : Below wr.heap.size wr w7' := hB5'.trans (hB7'.mono hB5'.size)
        rw [HR.out, HL1.out]
        exact ⟨_, A5, c5, A7, c7, rfl, ((HO.out.imp_ (fun p c hp => AnsN.bad (AnsN.below hp hB57) (fun _ h => h.elim))).below hB57), hb5.below hB7', hb7, hB.trans (hB57.mono hB.size)⟩
end Go.Proofs.YtnkhfdnahnphdaaDoor
end
section
namespace Go.Proofs.YtnkhfdnahnphdaaDoorW.PrintLast
open Go.Proofs.YtnkhfdnahnphdaaDoorW.PrintWords (Aside0)
def needsOf (md : Region.Mode) (o : Oper) : List Nat := (o.after.toList.filter (fun e => Region.binds md e)).map (fun e => e.on)
def clashOf (md : Region.Mode) (ops : Array Oper) (i : Nat) (oi : Oper) : List Nat := (List.range ops.size).filter fun j => !(j == i) && match ops[j]? with
  | some oj => !(oj.after.any (fun e => Region.binds md e && e.on == i) || oi.apart ops oj)
  | none => false
/-- No select in it; for each operation: what must have come up before it, and what may not come up behind it if it is taken first. -/
def rtab (md : Region.Mode) (ops : Array Oper) : Bool × List (List Nat × List Nat) := (Region.noSelect ops, (List.range ops.size).map fun i => match ops[i]? with
  | some o => (needsOf md o, clashOf md ops i o)
  | none => ([], []))
def readyAt (T : List (List Nat × List Nat)) (l : List Bool) (i : Nat) : Bool := !l.getD i true && match T[i]? with
  | some r => r.1.all (fun j => l.getD j false)
  | none => false
def readyT (T : List (List Nat × List Nat)) (l : List Bool) : List Nat := (List.range T.length).filter (readyAt T l)
def freeT (T : List (List Nat × List Nat)) (l : List Bool) (i : Nat) : Bool := match T[i]? with
  | some r => r.2.all (fun j => l.getD j true)
  | none => false
section
variable {md : Region.Mode} {ops : Array Oper} {T : Bool × List (List Nat × List Nat)} {l l' li lj lk : Array Bool} {ds : List Nat} {i j k : Nat}
theorem gd (l : Array Bool) (j : Nat) (b : Bool) : l.getD j b = l.toList.getD j b := by simp [Array.getD_eq_getD_getElem?, List.getD_eq_getElem?_getD]
theorem needs_all (o : Oper) (p : Nat → Bool) : o.after.all (fun e => !Region.binds md e || p e.on) = (needsOf md o).all p := by
  unfold needsOf
  rw [← Array.all_toList]
  induction o.after.toList with
  | nil => rfl
  | cons e r ih =>
    rw [List.all_cons, ih, List.filter_cons]
    cases h : Region.binds md e <;> simp
theorem rtab_length : (rtab md ops).2.length = ops.size := by simp [rtab]
theorem rtab_some {o : Oper} (h : ops[i]? = some o) : (rtab md ops).2[i]? = some (needsOf md o, clashOf md ops i o) := by
  have hi := (Array.getElem?_eq_some_iff.1 h).1
  unfold rtab
  rw [List.getElem?_map, List.getElem?_range hi, Option.map_some, h]
theorem rtab_none (h : ops[i]? = none) : (rtab md ops).2[i]? = none := by
  have hi : ops.size ≤ i := Array.getElem?_eq_none_iff.1 h
  exact List.getElem?_eq_none (by rw [rtab_length]; exact hi)
theorem readyAt_eq : readyAt (rtab md ops).2 l.toList i = (!l.getD i true && ((ops[i]?).map (·.after.all fun e => !Region.binds md e || l.getD e.on false)).getD false) := by
  unfold readyAt
  rw [gd]
  cases h : ops[i]? with
  | none => rw [rtab_none h]; rfl
  | some o =>
    rw [rtab_some h]
    simp only [Option.map_some, Option.getD_some]
    rw [← needs_all]
    simp only [gd]
theorem ready_eq : Region.ready md ops l = readyT (rtab md ops).2 l.toList := by
  unfold Region.ready readyT
  rw [rtab_length]
  refine List.filter_congr (fun i _ => ?_)
  rw [readyAt_eq]
theorem free_eq : Region.free md ops l i = freeT (rtab md ops).2 l.toList i := by
  unfold Region.free freeT
  cases h : ops[i]? with
  | none => rw [rtab_none h]
  | some oi =>
    rw [rtab_some h]
    simp only [clashOf]
    rw [List.all_filter]
    congr 1
    funext j
    rw [gd]
    cases hj : ops[j]? with
    | none => cases (j == i) <;> cases (l.toList.getD j true) <;> simp
    | some oj =>
      cases (j == i) <;> cases (l.toList.getD j true) <;> cases (oj.after.any (fun e => Region.binds md e && e.on == i) || oi.apart ops oj) <;> simp_all
theorem readyAt_mem (h : readyAt T.2 l.toList i = true) (hT : rtab md ops = T) : (Region.ready md ops l).contains i = true := by
  subst hT
  rw [ready_eq]
  unfold readyT
  rw [List.contains_iff_mem, List.mem_filter, List.mem_range]
  refine ⟨?_, h⟩
  unfold readyAt at h
  rw [Bool.and_eq_true] at h
  cases hq : (rtab md ops).2[i]? with
  | none => rw [hq] at h; simp at h
  | some r => exact (List.getElem?_eq_some_iff.1 hq).1
theorem set_of (h : (l.toList.set i true == l'.toList) = true) : (l.setIfInBounds i true == l') = true := by
  rw [beq_iff_eq] at h ⊢
  apply Array.ext'
  rw [Array.toList_setIfInBounds]
  exact h
def anyT (T : Bool × List (List Nat × List Nat)) (l l' : List Bool) (i : Nat) : Bool := T.1 && freeT T.2 l i && readyAt T.2 l i && (l.set i true == l')
/-- pure_'s condition out of the table. -/
theorem any_of (hT : rtab md ops = T) (h : anyT T l.toList l'.toList i = true) : anyB md ops l l' i = true := by
  simp only [anyT, Bool.and_eq_true] at h
  obtain ⟨⟨⟨h1, h2⟩, h3⟩, h4⟩ := h
  have h5 := readyAt_mem h3 hT
  have h6 := set_of h4
  subst hT
  simp only [anyB, Bool.and_eq_true]
  exact ⟨⟨⟨h1, by rw [free_eq]; exact h2⟩, h5⟩, h6⟩
end
end Go.Proofs.YtnkhfdnahnphdaaDoorW.PrintLast
end
section
namespace Go.Proofs.YtnkhfdnahnphdaaDoorW.PrintWords
open Go.RowKit
section
variable {w w' u : World} {m B g : Nat} {o : Obj} {row : Option Nat} {S : Nat → Prop} {a : Addr} {v : Value}
theorem keep_at (hq : w.drewN m = w') (h : KeepBut u w g row) : KeepBut u w' g row := by subst hq; exact keep_drewN h m
end
namespace Kd
section
variable {α : Type} {d : Kd α} {e base n m : Nat} {ok : Nat → Prop} {w w' : World} {v : Value} {A : Option Addr} {xs : List α}
end
end Kd
end Go.Proofs.YtnkhfdnahnphdaaDoorW.PrintWords
end
section
namespace Go.Proofs.YtnkhfdnahnphdaaDoorW.PrintLast
/-- Number i is listed too. -/
def up (b : Nat → Bool) (i : Nat) : Nat → Bool := fun j => if j = i then true else b j
section
variable {P : Program} {ops : Array Oper} {Q : Exit → Act → World → Prop} {md : Region.Mode} {T : Bool × List (List Nat × List Nat)} {B : List Nat} {O : List Nat} {b : Nat → Bool} {i j n : Nat}
end
end Go.Proofs.YtnkhfdnahnphdaaDoorW.PrintLast
end
section
namespace Go.Proofs.YtnkhfdnahnphdaaDoorW.PrintWords
open Go.RowKit
section
variable {P : Program} {ops : Array Oper} {rest : List Oper} {o : Oper} {a : Act} {Q : Exit → Act → World → Prop} {W : World}
/-- The gate takes the guard off (hw: 'by rfl', 'by kernel_rfl': the guard's slot holds what is wanted). -/
theorem gate_guard (hw : Region.wanted o (yielded ops a.tmps) = true) (h : wpList P ops Q ({ o with guard := none } :: rest) a W) : wpList P ops Q (o :: rest) a W := by
  have h1 : Region.wanted { o with guard := none } (yielded ops a.tmps) = true := rfl
  unfold wpList at h ⊢
  rw [if_pos h1] at h
  rw [if_pos hw]
  exact h
end
end Go.Proofs.YtnkhfdnahnphdaaDoorW.PrintWords
end
section
namespace Go.Proofs.YtnkhfdnahnphdaaDoor.PFnUnionReadOnly
open Go.RowKit Go.Proofs.YtnkhfdnahnphdaaDoorW.PrintWords Go.Proofs.YtnkhfdnahnphdaaDoorW.PrintLast Go.Proofs.YtnkhfdnahnphdaaDoorW.PrintMore
attribute [local go_sem] max2_int min2_int max_two min_two max_three min_three max_four min_four   -- for this text's walks alone
set_option linter.unusedVariables false
set_option linter.unusedSimpArgs false
def errW : Option Int → Value
  | none => .nilIface
  | some c => .iface 0 (.int .i64 c)
theorem errW_none : errW none = .nilIface := rfl
theorem errW_some (c : Int) : errW (some c) = .iface 0 (.int .i64 c) := rfl
theorem info5 : (Tryd.prog.info? 5).map (fun i => (i.zero, i.size, i.bytes)) = some (some (.int .u8 0), 1, 1) := by kernel_rfl
end Go.Proofs.YtnkhfdnahnphdaaDoor.PFnUnionReadOnly
end
