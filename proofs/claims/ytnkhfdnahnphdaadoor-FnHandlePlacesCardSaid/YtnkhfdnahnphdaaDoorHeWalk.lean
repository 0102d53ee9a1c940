/- HandleScript once more, for steps that may tell the laid errors. -/
import Derived.Test.YtnkhfdnahnphdaaDoorHsWalk
import Derived.Test.YtnkhfdnahnphdaaDoorErWalk
namespace Go.Proofs.YtnkhfdnahnphdaaDoor
open Go.ChangeShapes Go.WideShapes Go.ChangeAt Go.RowKit Go.Rd
open Go.Proofs.YtnkhfdnahnphdaaDoorW.PrintWords Go.Proofs.YtnkhfdnahnphdaaDoorW.PrintLast Go.Proofs.YtnkhfdnahnphdaaDoorW.PrintMore

theorem sents_at {B : Nat} {w w' : World} (h : ∃ ad, Sents B w ad) (hb : Below B w w') : ∃ ad, Sents B w' ad := by
  obtain ⟨ad, h⟩ := h
  exact ⟨ad, h.below hb⟩
/-- What a step does, wherever the file lies. -/
def StepOkE (s : St) (x : Stp × List Int) (a : Ans) (s' : St) : Prop :=
  ∀ (w : World) (f B fd : Nat) (dv : Value), HandleIs w f (s.fh fd) → DataIs w B fd dv s.fd → BytesIn w x.1.da x.1.dl x.1.dc x.2 → B ≤ w.heap.size → (∃ ad, Sents B w ad) →
    Calls Tryd.prog 23 #[.pointer (some ⟨f, 0, none⟩), x.1.val] w fun e w' => ∃ cs, e = .returned (.agg cs.toArray) ∧
      ∃ dv1, HandleIs w' f (s'.fh fd) ∧ DataIs w' B fd dv1 s'.fd ∧ Wrote (Feet f fd dv) w w' ∧ (dv1.ownBlock = dv.ownBlock ∨ ∃ k, dv1.ownBlock = some k ∧ w.heap.size ≤ k) ∧ AnsK w' (fun k => Feet f fd dv1 k ∨ k < w.heap.size) a cs
/-- What steps do, one after the other. -/
inductive RunsE : St → List (Stp × List Int) → List Ans → St → Prop
  | nil (s : St) : RunsE s [] [] s
  | cons {s s' s'' : St} {x : Stp × List Int} {xs : List (Stp × List Int)} {a : Ans} {l : List Ans} : StepOkE s x a s' → RunsE s' xs l s'' → RunsE s (x :: xs) (a :: l) s''

/-- The frame's state in a round. -/
def ScriptRelE (w : World) (f fd : Nat) (L : List (Stp × List Int)) (answers : List Ans) (sn : St) (v : Value) (k : Nat) (wr : World) : Prop :=
  ∃ (s : St) (l1 l2 : List Ans) (dv : Value), Hid (RunsE s (L.drop k) l2 sn) ∧ Hid (l1 ++ l2 = answers) ∧ l1.length = k ∧ HandleIs wr f (s.fh fd) ∧ DataIs wr w.heap.size fd dv s.fd ∧ w.heap.size ≤ f ∧ w.heap.size ≤ fd ∧
    OwnRow (AnsK wr (fun j => Feet f fd dv j ∨ v.ownBlock = some j)) 42 6 wr w.heap.size v l1 ∧ Below w.heap.size w wr

set_option maxRecDepth 100000 in
set_option maxHeartbeats 2000000 in
theorem script_anyE (dA : Option Addr) (dm dc : Nat) (data : List Int) (ro : Bool) (A : Option Addr) (c : Nat) (L : List (Stp × List Int)) (answers : List Ans) (sn : St) (w : World) (hb : BytesIn w dA dm dc data) (hdm : dm ≤ 4294967296)
    (hS : ReadsRow (StepK w) 10 w A L.length L) (hL : L.length ≤ 1000000) (hR : Hid (RunsE ⟨0, false, ro, data⟩ L answers sn)) (hsn : sn.bs.length ≤ 4294967296) (hse : Hid (∃ ad, Sents w.heap.size w ad)) :
    Calls Tryd.prog 14 #[.slice dA dm dc, .bool ro, .slice A L.length c] w fun e w' => ∃ v lA lc, e = .returned (.tuple #[v, .slice lA sn.bs.length lc]) ∧ OwnRow (AnsK w' (fun _ => False)) 42 6 w' w.heap.size v answers ∧ BytesIn w' lA sn.bs.length lc sn.bs ∧ Below w.heap.size w w' := by
  cases ro with
  | true =>
    go_enter Tryd.func14, Tryd.ntmps14
    go_wp2_with (first
      | (at_builtin; refine append_src rfl (.const (.slice none 0 0)) (.tmp 13) 22 rfl w.heap.size 5 _ (.int .u8 0) 1 1 Tryd.underlying22 rfl rfl rfl rfl rfl (by decide) (.slice none 0 0) 0 [] rfl (World.ownsRow_nil _ _ _ _) dA dm dc (data.map (Value.int .u8)) rfl (hb.src).1 hb.nil hb.cells (hb.src).2.2.2 (by unfold maxLen; omega) (by omega) (Nat.le_refl _) ?_; intro v1 w1 ho1 hg1; rw [Nat.zero_add, List.nil_append] at ho1; obtain ⟨A1, c1, e1⟩ := own_slice ho1; subst e1; have hB1 : Below w.heap.size w w1 := ⟨hg1.os, hg1.tape, hg1.output, hg1.size, fun k hk => hg1.block k hk (by simp [Value.ownBlock])⟩)
      | (go_at_call 20; refine (door_with A1 dm c1 data w1 w.heap.size ho1 hb.fits).mono ?_; rintro e w2 ⟨fd, rfl, hD2, hfd2, hB2⟩; have hB2' := hB1.trans (hB2.mono hB1.size); have hfd := Nat.le_trans hB1.size hfd2)
      | (go_at_call 21; refine (new_handle fd w2).mono ?_; rintro e w2a ⟨f0, rfl, _, _, hB2a⟩; have hD2a := hD2.below hB2a; have hB2b := hB2'.trans (hB2a.mono hB2'.size))
      | (go_at_call 22; refine (new_reader fd w2a).mono ?_; rintro e w3 ⟨f, rfl, hH3, hf3, hB3⟩; have hD3 := hD2a.below hB3; have hB3' := hB2b.trans (hB3.mono hB2b.size); have hf := Nat.le_trans hB2b.size hf3))
    go_loopw [10, 23] (fun v i wr => ∃ k : Nat, k ≤ L.length ∧ i = .int .i64 k ∧ ScriptRelE w f fd L answers sn v k wr) (fun _ i _ => L.length - (intOf i).toNat)
    case atStart => exact ⟨0, Nat.zero_le _, rfl, ⟨0, false, true, data⟩, [], answers, _, hR, rfl, rfl, hH3, hD3, hf, hfd, OwnRow.none_ _ _ _ _ _, hB3'⟩
    case round =>
      obtain ⟨k, hk, rfl, s, l1, l2, dv, hRs, hE, hk1, hH, hD, _, _, hO, hB⟩ := hrel
      by_cases hlt : k < L.length
      · obtain ⟨b, off, eA, hbl, hbk, x0, x1, x2, x3, x4, x5, x6, x7, x8, x9⟩ := steps_at hS k hlt
        subst eA
        have hBC : ∀ j v, w.cell? ⟨b, j, none⟩ = some v → wr.cell? ⟨b, j, none⟩ = some v := fun j v h => (hB.cell (p := ⟨b, j, none⟩) hbl).trans h
        have y0 := hBC _ _ x0
        have y1 := hBC _ _ x1
        have y2 := hBC _ _ x2
        have y3 := hBC _ _ x3
        have y4 := hBC _ _ x4
        have y5 := hBC _ _ x5
        have y6 := hBC _ _ x6
        have y7 := hBC _ _ x7
        have y8 := hBC _ _ x8
        have y9 := hBC _ _ x9
        clear hBC x0 x1 x2 x3 x4 x5 x6 x7 x8 x9
        have hbk' := hbk.below hB
        have hR2 := hRs.out
        rw [List.drop_eq_getElem_cons hlt] at hR2
        obtain ⟨a, l3, s', rfl, hst, hRn⟩ : ∃ a l3 s', l2 = a :: l3 ∧ StepOkE s L[k] a s' ∧ RunsE s' (L.drop (k + 1)) l3 sn := by
          cases hR2 with
          | cons h1 h2 => exact ⟨_, _, _, rfl, h1, h2⟩
        have hbox : ∀ o, OwnRow (AnsK (wr.alloc o) (fun j => Feet f fd dv j ∨ u10.ownBlock = some j)) 42 6 (wr.alloc o) w.heap.size u10 l1 := fun o => (hO.imp_ (fun p c hp => AnsK.below hp ((Below.refl _ _).alloc (Nat.le_refl _) o))).below ((Below.refl _ _).alloc (Nat.le_refl _) o)
        have HRn := Lib.hid hRn
        have HST := Lib.hid hst
        clear hRs hR2 hRn hst
        go_wp2_with (first
          | (go_at_call 23; refine (HST.out _ f w.heap.size fd dv (hH.below ((Below.refl _ _).alloc (Nat.le_refl _) _)) (hD.below ((Below.refl _ _).alloc (Nat.le_refl _) _)) (hbk'.below ((Below.refl _ _).alloc (Nat.le_refl _) _)) (by have := hB.size; simp; omega) (sents_at hse.out (hB.alloc hB.size _))).mono ?_; rintro e w4 ⟨cs, rfl, dv1, hH4, hD4, hW4, hat4, hA4⟩; obtain ⟨hO4, hA4'⟩ := ans_call (hbox _) (hH.below ((Below.refl _ _).alloc (Nat.le_refl _) _)) (hD.below ((Below.refl _ _).alloc (Nat.le_refl _) _)) hW4 hat4 hA4; have hB4 : Below w.heap.size w w4 := (hB.alloc hB.size _).trans (hW4.below (by have := hB.size; simp; omega) (fun j hj hs => feet_old hf hfd hD hs hj)); have hA6 := id hA4'; obtain ⟨Aa, ca, ecs, hba, hna⟩ := hA6; subst ecs; clear hA4 hba hna hat4 hW4)
          | (at_builtin; refine OwnRow.append (w0 := w) (R := AnsK w4 (fun j => Feet f fd dv1 j ∨ u10.ownBlock = some j)) w.heap.size rfl (.tmp 27) (.tmp 31) 36 42 (.agg #[.int .i64 0, .int .i64 0, .int .i64 0, .slice none 0 0, .slice none 0 0, .slice none 0 0]) 6 96 rfl Tryd.underlying36 info42' rfl (by decide) (by decide) u10 l1 a [.int .i64 a.e, .int .i64 a.n, .int .i64 a.off, .slice Aa a.data.length ca, .slice none 0 0, .slice none 0 0] rfl (by simp [Act.eval]) hA4' rfl (AnsK.one hA4') hO4 hB4 hB4.size (by omega) ?_; intro v5 w5 hO5 hB5 hg5 hat5))
        go_roundw
        case rel =>
          refine ⟨k + 1, by omega, by go_num, s', l1 ++ [a], l3, dv1, HRn, ?_, by simp; omega, (hH4.wrote (wrote_grown hg5) ?_), (hD4.wrote (wrote_grown hg5) ?_ ?_), hf, hfd, ans_append hO5 hg5 hat5, hB5⟩
          · have := hE.out
            rw [← this]
            simp [Hid]
          · exact fun e => own_ne_h hO4 hH4 e
          · exact fun e => own_ne_d hO4 hD4 e
          · exact fun j hj e => own_ne_r hO4 hD4 e hj
        case measure => simp [intOf]; omega
      · obtain rfl : k = L.length := by omega
        have hR2 := hRs.out
        rw [List.drop_length] at hR2
        obtain ⟨rfl, rfl⟩ : l2 = [] ∧ s = sn := by cases hR2; exact ⟨rfl, rfl⟩
        have hE2 := hE.out
        rw [List.append_nil] at hE2
        subst hE2
        obtain ⟨Ad, cd, rfl, hbd⟩ := BytesIn.own (show wr.ownsRow w.heap.size tU8 1 dv s.bs.length (s.bs.map (Value.int .u8)) from hD.2.1) hD.2.2
        clear hRs hR2 hE
        go_wp2_with (first
          | (go_at_call 24; refine (door_bytes fd w.heap.size _ s.fd wr hD).mono ?_; rintro e w4 ⟨rfl, rfl⟩)
          | (at_builtin; refine append_src rfl (.const (.slice none 0 0)) (.tmp 36) 22 rfl wr.heap.size 5 _ (.int .u8 0) 1 1 Tryd.underlying22 rfl rfl rfl rfl rfl (by decide) (.slice none 0 0) 0 [] rfl (World.ownsRow_nil _ _ _ _) Ad s.bs.length cd (s.bs.map (Value.int .u8)) rfl (hbd.src).1 hbd.nil hbd.cells (hbd.src).2.2.2 (by unfold maxLen; omega) (by omega) (Nat.le_refl _) ?_; intro v5 w5 ho5 hg5; rw [Nat.zero_add, List.nil_append] at ho5; obtain ⟨A5, c5, e5, hb5⟩ := BytesIn.own ho5 hD.2.2; subst e5; have hB5 : Below wr.heap.size wr w5 := ⟨hg5.os, hg5.tape, hg5.output, hg5.size, fun k hk => hg5.block k hk (by simp [Value.ownBlock])⟩))
        go_ret2
        exact ⟨_, A5, c5, rfl, ((hO.imp_ (fun p c hp => AnsK.bad (AnsK.below hp hB5) (fun _ h => h.elim))).below hB5), hb5, hB.trans (hB5.mono hB.size)⟩
  | false =>
    go_enter Tryd.func14, Tryd.ntmps14
    go_wp2_with (first
      | (at_builtin; refine append_src rfl (.const (.slice none 0 0)) (.tmp 13) 22 rfl w.heap.size 5 _ (.int .u8 0) 1 1 Tryd.underlying22 rfl rfl rfl rfl rfl (by decide) (.slice none 0 0) 0 [] rfl (World.ownsRow_nil _ _ _ _) dA dm dc (data.map (Value.int .u8)) rfl (hb.src).1 hb.nil hb.cells (hb.src).2.2.2 (by unfold maxLen; omega) (by omega) (Nat.le_refl _) ?_; intro v1 w1 ho1 hg1; rw [Nat.zero_add, List.nil_append] at ho1; obtain ⟨A1, c1, e1⟩ := own_slice ho1; subst e1; have hB1 : Below w.heap.size w w1 := ⟨hg1.os, hg1.tape, hg1.output, hg1.size, fun k hk => hg1.block k hk (by simp [Value.ownBlock])⟩)
      | (go_at_call 20; refine (door_with A1 dm c1 data w1 w.heap.size ho1 hb.fits).mono ?_; rintro e w2 ⟨fd, rfl, hD2, hfd2, hB2⟩; have hB2' := hB1.trans (hB2.mono hB1.size); have hfd := Nat.le_trans hB1.size hfd2)
      | (go_at_call 21; refine (new_handle fd w2).mono ?_; rintro e w3 ⟨f, rfl, hH3, hf3, hB3⟩; have hD3 := hD2.below hB3; have hB3' := hB2'.trans (hB3.mono hB2'.size); have hf := Nat.le_trans hB2'.size hf3))
    go_loopw [10, 23] (fun v i wr => ∃ k : Nat, k ≤ L.length ∧ i = .int .i64 k ∧ ScriptRelE w f fd L answers sn v k wr) (fun _ i _ => L.length - (intOf i).toNat)
    case atStart => exact ⟨0, Nat.zero_le _, rfl, ⟨0, false, false, data⟩, [], answers, _, hR, rfl, rfl, hH3, hD3, hf, hfd, OwnRow.none_ _ _ _ _ _, hB3'⟩
    case round =>
      obtain ⟨k, hk, rfl, s, l1, l2, dv, hRs, hE, hk1, hH, hD, _, _, hO, hB⟩ := hrel
      by_cases hlt : k < L.length
      · obtain ⟨b, off, eA, hbl, hbk, x0, x1, x2, x3, x4, x5, x6, x7, x8, x9⟩ := steps_at hS k hlt
        subst eA
        have hBC : ∀ j v, w.cell? ⟨b, j, none⟩ = some v → wr.cell? ⟨b, j, none⟩ = some v := fun j v h => (hB.cell (p := ⟨b, j, none⟩) hbl).trans h
        have y0 := hBC _ _ x0
        have y1 := hBC _ _ x1
        have y2 := hBC _ _ x2
        have y3 := hBC _ _ x3
        have y4 := hBC _ _ x4
        have y5 := hBC _ _ x5
        have y6 := hBC _ _ x6
        have y7 := hBC _ _ x7
        have y8 := hBC _ _ x8
        have y9 := hBC _ _ x9
        clear hBC x0 x1 x2 x3 x4 x5 x6 x7 x8 x9
        have hbk' := hbk.below hB
        have hR2 := hRs.out
        rw [List.drop_eq_getElem_cons hlt] at hR2
        obtain ⟨a, l3, s', rfl, hst, hRn⟩ : ∃ a l3 s', l2 = a :: l3 ∧ StepOkE s L[k] a s' ∧ RunsE s' (L.drop (k + 1)) l3 sn := by
          cases hR2 with
          | cons h1 h2 => exact ⟨_, _, _, rfl, h1, h2⟩
        have hbox : ∀ o, OwnRow (AnsK (wr.alloc o) (fun j => Feet f fd dv j ∨ u10.ownBlock = some j)) 42 6 (wr.alloc o) w.heap.size u10 l1 := fun o => (hO.imp_ (fun p c hp => AnsK.below hp ((Below.refl _ _).alloc (Nat.le_refl _) o))).below ((Below.refl _ _).alloc (Nat.le_refl _) o)
        have HRn := Lib.hid hRn
        have HST := Lib.hid hst
        clear hRs hR2 hRn hst
        go_wp2_with (first
          | (go_at_call 23; refine (HST.out _ f w.heap.size fd dv (hH.below ((Below.refl _ _).alloc (Nat.le_refl _) _)) (hD.below ((Below.refl _ _).alloc (Nat.le_refl _) _)) (hbk'.below ((Below.refl _ _).alloc (Nat.le_refl _) _)) (by have := hB.size; simp; omega) (sents_at hse.out (hB.alloc hB.size _))).mono ?_; rintro e w4 ⟨cs, rfl, dv1, hH4, hD4, hW4, hat4, hA4⟩; obtain ⟨hO4, hA4'⟩ := ans_call (hbox _) (hH.below ((Below.refl _ _).alloc (Nat.le_refl _) _)) (hD.below ((Below.refl _ _).alloc (Nat.le_refl _) _)) hW4 hat4 hA4; have hB4 : Below w.heap.size w w4 := (hB.alloc hB.size _).trans (hW4.below (by have := hB.size; simp; omega) (fun j hj hs => feet_old hf hfd hD hs hj)); have hA6 := id hA4'; obtain ⟨Aa, ca, ecs, hba, hna⟩ := hA6; subst ecs; clear hA4 hba hna hat4 hW4)
          | (at_builtin; refine OwnRow.append (w0 := w) (R := AnsK w4 (fun j => Feet f fd dv1 j ∨ u10.ownBlock = some j)) w.heap.size rfl (.tmp 27) (.tmp 31) 36 42 (.agg #[.int .i64 0, .int .i64 0, .int .i64 0, .slice none 0 0, .slice none 0 0, .slice none 0 0]) 6 96 rfl Tryd.underlying36 info42' rfl (by decide) (by decide) u10 l1 a [.int .i64 a.e, .int .i64 a.n, .int .i64 a.off, .slice Aa a.data.length ca, .slice none 0 0, .slice none 0 0] rfl (by simp [Act.eval]) hA4' rfl (AnsK.one hA4') hO4 hB4 hB4.size (by omega) ?_; intro v5 w5 hO5 hB5 hg5 hat5))
        go_roundw
        case rel =>
          refine ⟨k + 1, by omega, by go_num, s', l1 ++ [a], l3, dv1, HRn, ?_, by simp; omega, (hH4.wrote (wrote_grown hg5) ?_), (hD4.wrote (wrote_grown hg5) ?_ ?_), hf, hfd, ans_append hO5 hg5 hat5, hB5⟩
          · have := hE.out
            rw [← this]
            simp [Hid]
          · exact fun e => own_ne_h hO4 hH4 e
          · exact fun e => own_ne_d hO4 hD4 e
          · exact fun j hj e => own_ne_r hO4 hD4 e hj
        case measure => simp [intOf]; omega
      · obtain rfl : k = L.length := by omega
        have hR2 := hRs.out
        rw [List.drop_length] at hR2
        obtain ⟨rfl, rfl⟩ : l2 = [] ∧ s = sn := by cases hR2; exact ⟨rfl, rfl⟩
        have hE2 := hE.out
        rw [List.append_nil] at hE2
        subst hE2
        obtain ⟨Ad, cd, rfl, hbd⟩ := BytesIn.own (show wr.ownsRow w.heap.size tU8 1 dv s.bs.length (s.bs.map (Value.int .u8)) from hD.2.1) hD.2.2
        clear hRs hR2 hE
        go_wp2_with (first
          | (go_at_call 24; refine (door_bytes fd w.heap.size _ s.fd wr hD).mono ?_; rintro e w4 ⟨rfl, rfl⟩)
          | (at_builtin; refine append_src rfl (.const (.slice none 0 0)) (.tmp 36) 22 rfl wr.heap.size 5 _ (.int .u8 0) 1 1 Tryd.underlying22 rfl rfl rfl rfl rfl (by decide) (.slice none 0 0) 0 [] rfl (World.ownsRow_nil _ _ _ _) Ad s.bs.length cd (s.bs.map (Value.int .u8)) rfl (hbd.src).1 hbd.nil hbd.cells (hbd.src).2.2.2 (by unfold maxLen; omega) (by omega) (Nat.le_refl _) ?_; intro v5 w5 ho5 hg5; rw [Nat.zero_add, List.nil_append] at ho5; obtain ⟨A5, c5, e5, hb5⟩ := BytesIn.own ho5 hD.2.2; subst e5; have hB5 : Below wr.heap.size wr w5 := ⟨hg5.os, hg5.tape, hg5.output, hg5.size, fun k hk => hg5.block k hk (by simp [Value.ownBlock])⟩))
        go_ret2
        exact ⟨_, A5, c5, rfl, ((hO.imp_ (fun p c hp => AnsK.bad (AnsK.below hp hB5) (fun _ h => h.elim))).below hB5), hb5, hB.trans (hB5.mono hB.size)⟩
end Go.Proofs.YtnkhfdnahnphdaaDoor
