/- Parts of the proof, merged: UtWalk, UvWalk. -/
import Derived.Test.YtnkhfdnahnphdaaDoorZc24
import Derived.Test.YtnkhfdnahnphdaaDoorZc26
section
namespace Go.Proofs.YtnkhfdnahnphdaaDoor
open Go.ChangeShapes Go.WideShapes Go.ChangeAt Go.RowKit Go.Rd
open Go.Proofs.YtnkhfdnahnphdaaDoorW.PrintWords Go.Proofs.YtnkhfdnahnphdaaDoorW.PrintLast Go.Proofs.YtnkhfdnahnphdaaDoorW.PrintMore
set_option linter.unusedVariables false
set_option linter.unusedSectionVars false
/-- The frame's state in a round. -/
def ScriptH (w : World) (f fd : Nat) (p : St × St) (L : List Sx) (v : Value) (k : Nat) (wr : World) : Prop :=
  ∃ dv, HandS wr f (runP p (L.take k)).1 fd ∧ DataIs wr w.heap.size fd dv (runP p (L.take k)).1.fd ∧ OwnRow (AnsN wr (fun j => Feet f fd dv j ∨ v.ownBlock = some j)) 42 6 wr w.heap.size v (ansP p (L.take k)) ∧ Below w.heap.size w wr
section
variable {w wr : World} {f fd : Nat} {dv : Value} {p : St × St} {L : List Sx} {k : Nat}
theorem on_at (hsp : SpkAll p L) (hfit : FitL L) (h1 : Good 0 p.1) (h2 : Good 0 p.2) (hL : L.length ≤ 1000000) (hlt : k < L.length) (hH : HandS wr f (runP p (L.take k)).1 fd) (hD : DataIs wr w.heap.size fd dv (runP p (L.take k)).1.fd) (hbk : BytesIn wr L[k].1.da L[k].1.dl L[k].1.dc L[k].2) (hf : w.heap.size ≤ f) (hfd : w.heap.size ≤ fd) (hB : Below w.heap.size w wr) (hse : ∃ ad, Sents w.heap.size w ad) (W : World) (hb : Below wr.heap.size wr W) :
    Calls Tryd.prog 23 #[.pointer (some ⟨f, 0, none⟩), L[k].1.val] W (OnPost W w.heap.size f fd dv (doF (runP p (L.take k)).1 L[k])) := by
  obtain ⟨ad, hS⟩ := hse
  have hBW := hB.trans (hb.mono hB.size)
  obtain ⟨g1, g2⟩ := good_at hsp hfit h1 h2 k (by omega)
  obtain ⟨a1, a2, a3⟩ := spk_at hsp k hlt
  exact on_ok w.heap.size f fd w.heap.size k ad dv _ L[k] W (hS.below hBW) hBW.size hf hfd (Nat.le_refl _) (hH.below hb) (hD.below hb) hBW.size g1 (by omega) a1 a3 (hbk.below hb)
theorem row_ne_h {w2 : World} {R : Ans → List Value → Prop} {B : Nat} {v : Value} {l : List Ans} {s : St} (hO : OwnRow R 42 6 w2 B v l) (hH : HandS w2 f s fd) (e : v.ownBlock = some f) : False := by
  obtain ⟨c, hc⟩ := hH.block
  obtain ⟨inner, hin, _⟩ := hO
  obtain ⟨c', hc'⟩ := own_typed hin f e
  exact blk_ne hc' hc (by decide) rfl
theorem ans1_call {w2 : World} {v dv1 : Value} {l1 : List Ans} {a : Ans} {cs : List Value} {B : Nat} {s : St} (hO : OwnRow (AnsN wr (fun j => Feet f fd dv j ∨ v.ownBlock = some j)) 42 6 wr B v l1) (hH : HandS wr f s fd) (hD : DataIs wr B fd dv s.fd)
    (hW : Wrote (Feet f fd dv) wr w2) (hn : NewOr wr dv dv1) (hA : AnsN w2 (fun k => Feet f fd dv1 k ∨ k < wr.heap.size) a cs) :
    OwnRow (AnsN w2 (fun j => Feet f fd dv1 j ∨ v.ownBlock = some j)) 42 6 w2 B v l1 ∧ AnsN w2 (fun j => Feet f fd dv1 j ∨ v.ownBlock = some j) a cs := by
  have hO' := hO
  obtain ⟨inner, hin, hri⟩ := hO
  refine ⟨⟨inner, own_move hin (fun k hk => hW.block k (own_lt hin k hk) (fun hs => ?_)), hri.imp_ (fun p c hp => AnsN.step (S := fun j => Feet f fd dv j ∨ v.ownBlock = some j) hp (hW.mono (fun k _ hk => .inl hk)) (fun k hk => ?_))⟩, AnsN.bad hA (fun k hk => ?_)⟩
  · rcases hs with e | e | e
    · exact row_ne_h hO' hH (e ▸ hk)
    · exact own_ne_d hO' hD (e ▸ hk)
    · exact own_ne_r hO' hD hk e
  · by_cases hl : k < wr.heap.size
    · rcases hk with hk | hk
      · exact .inl (.inl (feet_old' hn hl hk))
      · exact .inl (.inr hk)
    · exact .inr (by omega)
  · rcases hk with hk | hk
    · exact .inl hk
    · exact .inr (own_lt hin k hk)
end
set_option maxRecDepth 100000 in
set_option maxHeartbeats 4000000 in
theorem script_doF (dA : Option Addr) (dm dc : Nat) (data : List Int) (ro : Bool) (q : St) (A : Option Addr) (c : Nat) (L : List Sx) (w : World) (hb : BytesIn w dA dm dc data) (hdm : dm ≤ 4096) (hg2' : Good 0 q)
    (hS : ReadsRow (StepK w) 10 w A L.length L) (hL : L.length ≤ 1000000) (hsp : Hid (SpkAll (⟨0, false, ro, data⟩, q) L)) (hfit : Hid (FitL L)) (hse : Hid (∃ ad, Sents w.heap.size w ad)) :
    Calls Tryd.prog 14 #[.slice dA dm dc, .bool ro, .slice A L.length c] w fun e w' => ∃ v lA lc, e = .returned (.tuple #[v, .slice lA (runP (⟨0, false, ro, data⟩, q) L).1.bs.length lc]) ∧
      OwnRow (AnsN w' (fun _ => False)) 42 6 w' w.heap.size v (ansP (⟨0, false, ro, data⟩, q) L) ∧ BytesIn w' lA (runP (⟨0, false, ro, data⟩, q) L).1.bs.length lc (runP (⟨0, false, ro, data⟩, q) L).1.bs ∧ Below w.heap.size w w' := by
  have hg1' : Good 0 (⟨0, false, ro, data⟩ : St) := ⟨by have := hb.len; simp only; omega, by simp, by simp, hb.fits⟩
  have hgE : Hid ((runP (⟨0, false, ro, data⟩, q) L).1.bs.length ≤ 8192) := by
    have := good_at hsp.out hfit.out hg1' hg2' L.length (Nat.le_refl _)
    rw [List.take_length] at this
    exact this.1.len
  cases ro with
  | true =>
    go_enter Tryd.func14, Tryd.ntmps14
    go_wp2_with (first
      | (go_at_call 22; refine (new_reader fd w2a).mono ?_; rintro e w3 ⟨f, rfl, hH3, hf3, hB3⟩; have hD3 := hD2a.below hB3; have hB3' := hB2b.trans (hB3.mono hB2b.size); have hf := Nat.le_trans hB2b.size hf3)
      | (go_at_call 21; refine (new_handle fd w2).mono ?_; rintro e w2a ⟨f0, rfl, _, _, hB2a⟩; have hD2a := hD2.below hB2a; have hB2b := hB2'.trans (hB2a.mono hB2'.size))
      | (go_at_call 20; refine (door_with A1 dm c1 data w1 w.heap.size ho1 hb.fits).mono ?_; rintro e w2 ⟨fd, rfl, hD2, hfd2, hB2⟩; have hB2' := hB1.trans (hB2.mono hB1.size); have hfd := Nat.le_trans hB1.size hfd2)
      | (at_builtin; refine append_src rfl (.const (.slice none 0 0)) (.tmp 13) 22 rfl w.heap.size 5 _ (.int .u8 0) 1 1 Tryd.underlying22 rfl rfl rfl rfl rfl (by decide) (.slice none 0 0) 0 [] rfl (World.ownsRow_nil _ _ _ _) dA dm dc (data.map (Value.int .u8)) rfl (hb.src).1 hb.nil hb.cells (hb.src).2.2.2 (by unfold maxLen; omega) (by omega) (Nat.le_refl _) ?_; intro v1 w1 ho1 hg1; rw [Nat.zero_add, List.nil_append] at ho1; obtain ⟨A1, c1, e1⟩ := own_slice ho1; subst e1; have hB1 : Below w.heap.size w w1 := ⟨hg1.os, hg1.tape, hg1.output, hg1.size, fun k hk => hg1.block k hk (by simp [Value.ownBlock])⟩))
    have HD3 := Lib.hid hD3
    have HH3 := Lib.hid hH3
    have HB3 := Lib.hid hB3'
    clear hD3 hH3 hB3' hB3
    go_loopw [10, 23] (fun v i wr => ∃ k : Nat, k ≤ L.length ∧ i = .int .i64 k ∧ ScriptH w f fd (⟨0, false, true, data⟩, q) L v k wr) (fun _ i _ => L.length - (intOf i).toNat)
    case atStart => exact ⟨0, Nat.zero_le _, rfl, _, .of HH3.out, HD3.out, OwnRow.none_ _ _ _ _ _, HB3.out⟩
    case round =>
      obtain ⟨k, hk, rfl, dv, hH, hD, hO, hB⟩ := hrel
      by_cases hlt : k < L.length
      · obtain ⟨b, off, eA, hbl, hbk, x0, x1, x2, x3, x4, x5, x6, x7, x8, x9⟩ := steps_at hS k hlt
        subst eA
        have hBC : ∀ j v, w.cell? ⟨b, j, none⟩ = some v → wr.cell? ⟨b, j, none⟩ = some v := fun j v h => (hB.cell (p := ⟨b, j, none⟩) hbl).trans h
        have y0 := hBC _ _ x0
        have y1 := hBC _ _ x1
        have y2 := hBC _ _ x2
        have y3 := hBC _ _ x3
        have y4 := hBC _ _ x4
        have y5 := hBC _ _ x5
        have y6 := hBC _ _ x6
        have y7 := hBC _ _ x7
        have y8 := hBC _ _ x8
        have y9 := hBC _ _ x9
        clear hBC x0 x1 x2 x3 x4 x5 x6 x7 x8 x9
        have hbk' := hbk.below hB
        have hst := fun W (hbw : Below wr.heap.size wr W) => on_at hsp.out hfit.out hg1' hg2' hL hlt hH hD hbk' hf hfd hB hse.out W hbw
        have hbox : ∀ o, OwnRow (AnsN (wr.alloc o) (fun j => Feet f fd dv j ∨ u10.ownBlock = some j)) 42 6 (wr.alloc o) w.heap.size u10 (ansP (⟨0, false, true, data⟩, q) (L.take k)) := fun o => (hO.imp_ (fun p c hp => AnsN.below hp ((Below.refl _ _).alloc (Nat.le_refl _) o))).below ((Below.refl _ _).alloc (Nat.le_refl _) o)
        have hl1 : (ansP (⟨0, false, true, data⟩, q) (L.take k)).length = k := by rw [ansP_length]; simp; omega
        have eA := ansP_take (⟨0, false, true, data⟩, q) L k hlt
        have eR := runP_take (⟨0, false, true, data⟩, q) L k hlt
        have HST := Lib.hid hst
        have HEA := Lib.hid eA
        have HER := Lib.hid eR
        have HH := Lib.hid hH
        have HDD0 := Lib.hid hD
        clear hst eA eR hO hH hD
        generalize ansP (⟨0, false, true, data⟩, q) (L.take k) = l1 at *
        generalize hD : doF (runP (⟨0, false, true, data⟩, q) (L.take k)).1 L[k] = D at *
        have HDD := Lib.hid hD
        clear hD
        go_wp2_with (first
          | (go_at_call 23; refine (HST.out _ ((Below.refl _ _).alloc (Nat.le_refl _) _)).mono ?_; rintro e w4 ⟨cs, rfl, dv1, hH4, hD4, hW4, hat4, hA4⟩; obtain ⟨hO4, hA4'⟩ := ans1_call (hbox _) (HH.out.below ((Below.refl _ _).alloc (Nat.le_refl _) _)) (HDD0.out.below ((Below.refl _ _).alloc (Nat.le_refl _) _)) hW4 hat4 hA4; have hB4 : Below w.heap.size w w4 := (hB.alloc hB.size _).trans (hW4.below (by have := hB.size; simp; omega) (fun j hj hs => feet_old hf hfd HDD0.out hs hj)); have hA6 := id hA4'; obtain ⟨Aa, ca, na, nc, ecs, hba, hna⟩ := hA6; subst ecs; have HH4 := Lib.hid hH4; have HD4 := Lib.hid hD4; clear hA4 hba hna hat4 hW4 hH4 hD4)
          | (at_builtin; refine OwnRow.append (w0 := w) (R := AnsN w4 (fun j => Feet f fd dv1 j ∨ u10.ownBlock = some j)) w.heap.size rfl (.tmp 27) (.tmp 31) 36 42 (.agg #[.int .i64 0, .int .i64 0, .int .i64 0, .slice none 0 0, .slice none 0 0, .slice none 0 0]) 6 96 rfl Tryd.underlying36 info42' rfl (by decide) (by decide) u10 l1 D.1 [.int .i64 D.1.e, .int .i64 D.1.n, .int .i64 D.1.off, .slice Aa D.1.data.length ca, .slice na 0 nc, .slice none 0 0] rfl (by simp [Act.eval]) hA4' rfl (AnsN.one hA4') hO4 hB4 hB4.size (by omega) ?_; intro v5 w5 hO5 hB5 hg5 hat5))
        go_roundw
        case rel =>
          refine ⟨k + 1, by omega, by go_num, dv1, ?_, ?_, ?_, hB5⟩
          · rw [HER.out]
            have h := HH4.out.wrote (wrote_grown hg5) (fun e => row_ne_h hO4 HH4.out e)
            rw [← HDD.out] at h
            exact h
          · rw [HER.out]
            have h := HD4.out.wrote (wrote_grown hg5) (fun e => own_ne_d hO4 HD4.out e) (fun j hj e => own_ne_r hO4 HD4.out e hj)
            rw [← HDD.out] at h
            exact h
          · rw [HEA.out]
            exact ansN_append hO5 hg5 hat5
        case measure => simp [intOf]; omega
      · obtain rfl : k = L.length := by omega
        rw [List.take_length] at hH hD hO
        have hn1 : (runP (⟨0, false, true, data⟩, q) L).1.bs.length ≤ 8192 := hgE.out
        obtain ⟨⟨r1, r2⟩, hR⟩ : ∃ R, runP (⟨0, false, true, data⟩, q) L = R := ⟨_, rfl⟩
        obtain ⟨l1, hl1⟩ : ∃ l1, ansP (⟨0, false, true, data⟩, q) L = l1 := ⟨_, rfl⟩
        rw [hR] at hn1 hH hD
        rw [hl1] at hO
        simp only at hn1 hH hD
        have HR := Lib.hid hR
        have HL1 := Lib.hid hl1
        obtain ⟨Ad, cd, rfl, hbd⟩ := BytesIn.own (show wr.ownsRow w.heap.size tU8 1 dv r1.bs.length (r1.bs.map (Value.int .u8)) from hD.2.1) hD.2.2
        have HD := Lib.hid hD
        have HO := Lib.hid hO
        clear hR hl1 hH hD hO
        go_wp2_with (first
          | (go_at_call 24; refine (door_bytes fd w.heap.size _ r1.fd wr HD.out).mono ?_; rintro e w4 ⟨rfl, rfl⟩)
          | (at_builtin; refine append_src rfl (.const (.slice none 0 0)) (.tmp 36) 22 rfl wr.heap.size 5 _ (.int .u8 0) 1 1 Tryd.underlying22 rfl rfl rfl rfl rfl (by decide) (.slice none 0 0) 0 [] rfl (World.ownsRow_nil _ _ _ _) Ad r1.bs.length cd (r1.bs.map (Value.int .u8)) rfl (hbd.src).1 hbd.nil hbd.cells (hbd.src).2.2.2 (by unfold maxLen; omega) (by omega) (Nat.le_refl _) ?_; intro v5 w5 ho5 hg5; rw [Nat.zero_add, List.nil_append] at ho5; obtain ⟨A5, c5, e5, hb5⟩ := BytesIn.own ho5 HD.out.2.2; subst e5; have hB5 : Below wr.heap.size wr w5 := ⟨hg5.os, hg5.tape, hg5.output, hg5.size, fun k hk => hg5.block k hk (by simp [Value.ownBlock])⟩))
        go_ret2
        rw [HR.out, HL1.out]
        exact ⟨_, A5, c5, rfl, ((HO.out.imp_ (fun p c hp => AnsN.bad (AnsN.below hp hB5) (fun _ h => h.elim))).below hB5), hb5, hB.trans (hB5.mono hB.size)⟩
  | false =>
    go_enter Tryd.func14, Tryd.ntmps14
    go_wp2_with (first
      | (go_at_call 21; refine (new_handle fd w2).mono ?_; rintro e w3 ⟨f, rfl, hH3, hf3, hB3⟩; have hD3 := hD2.below hB3; have hB3' := hB2'.trans (hB3.mono hB2'.size); have hf := Nat.le_trans hB2'.size hf3)
      | (go_at_call 20; refine (door_with A1 dm c1 data w1 w.heap.size ho1 hb.fits).mono ?_; rintro e w2 ⟨fd, rfl, hD2, hfd2, hB2⟩; have hB2' := hB1.trans (hB2.mono hB1.size); have hfd := Nat.le_trans hB1.size hfd2)
      | (at_builtin; refine append_src rfl (.const (.slice none 0 0)) (.tmp 13) 22 rfl w.heap.size 5 _ (.int .u8 0) 1 1 Tryd.underlying22 rfl rfl rfl rfl rfl (by decide) (.slice none 0 0) 0 [] rfl (World.ownsRow_nil _ _ _ _) dA dm dc (data.map (Value.int .u8)) rfl (hb.src).1 hb.nil hb.cells (hb.src).2.2.2 (by unfold maxLen; omega) (by omega) (Nat.le_refl _) ?_; intro v1 w1 ho1 hg1; rw [Nat.zero_add, List.nil_append] at ho1; obtain ⟨A1, c1, e1⟩ := own_slice ho1; subst e1; have hB1 : Below w.heap.size w w1 := ⟨hg1.os, hg1.tape, hg1.output, hg1.size, fun k hk => hg1.block k hk (by simp [Value.ownBlock])⟩))
    have HD3 := Lib.hid hD3
    have HH3 := Lib.hid hH3
    have HB3 := Lib.hid hB3'
    clear hD3 hH3 hB3' hB3
    go_loopw [10, 23] (fun v i wr => ∃ k : Nat, k ≤ L.length ∧ i = .int .i64 k ∧ ScriptH w f fd (⟨0, false, false, data⟩, q) L v k wr) (fun _ i _ => L.length - (intOf i).toNat)
    case atStart => exact ⟨0, Nat.zero_le _, rfl, _, .of HH3.out, HD3.out, OwnRow.none_ _ _ _ _ _, HB3.out⟩
    case round =>
      obtain ⟨k, hk, rfl, dv, hH, hD, hO, hB⟩ := hrel
      by_cases hlt : k < L.length
      · obtain ⟨b, off, eA, hbl, hbk, x0, x1, x2, x3, x4, x5, x6, x7, x8, x9⟩ := steps_at hS k hlt
        subst eA
        have hBC : ∀ j v, w.cell? ⟨b, j, none⟩ = some v → wr.cell? ⟨b, j, none⟩ = some v := fun j v h => (hB.cell (p := ⟨b, j, none⟩) hbl).trans h
        have y0 := hBC _ _ x0
        have y1 := hBC _ _ x1
        have y2 := hBC _ _ x2
        have y3 := hBC _ _ x3
        have y4 := hBC _ _ x4
        have y5 := hBC _ _ x5
        have y6 := hBC _ _ x6
        have y7 := hBC _ _ x7
        have y8 := hBC _ _ x8
        have y9 := hBC _ _ x9
        clear hBC x0 x1 x2 x3 x4 x5 x6 x7 x8 x9
        have hbk' := hbk.below hB
        have hst := fun W (hbw : Below wr.heap.size wr W) => on_at hsp.out hfit.out hg1' hg2' hL hlt hH hD hbk' hf hfd hB hse.out W hbw
        have hbox : ∀ o, OwnRow (AnsN (wr.alloc o) (fun j => Feet f fd dv j ∨ u10.ownBlock = some j)) 42 6 (wr.alloc o) w.heap.size u10 (ansP (⟨0, false, false, data⟩, q) (L.take k)) := fun o => (hO.imp_ (fun p c hp => AnsN.below hp ((Below.refl _ _).alloc (Nat.le_refl _) o))).below ((Below.refl _ _).alloc (Nat.le_refl _) o)
        have hl1 : (ansP (⟨0, false, false, data⟩, q) (L.take k)).length = k := by rw [ansP_length]; simp; omega
        have eA := ansP_take (⟨0, false, false, data⟩, q) L k hlt
        have eR := runP_take (⟨0, false, false, data⟩, q) L k hlt
        have HST := Lib.hid hst
        have HEA := Lib.hid eA
        have HER := Lib.hid eR
        have HH := Lib.hid hH
        have HDD0 := Lib.hid hD
        clear hst eA eR hO hH hD
        generalize ansP (⟨0, false, false, data⟩, q) (L.take k) = l1 at *
        generalize hD : doF (runP (⟨0, false, false, data⟩, q) (L.take k)).1 L[k] = D at *
        have HDD := Lib.hid hD
        clear hD
        go_wp2_with (first
          | (go_at_call 23; refine (HST.out _ ((Below.refl _ _).alloc (Nat.le_refl _) _)).mono ?_; rintro e w4 ⟨cs, rfl, dv1, hH4, hD4, hW4, hat4, hA4⟩; obtain ⟨hO4, hA4'⟩ := ans1_call (hbox _) (HH.out.below ((Below.refl _ _).alloc (Nat.le_refl _) _)) (HDD0.out.below ((Below.refl _ _).alloc (Nat.le_refl _) _)) hW4 hat4 hA4; have hB4 : Below w.heap.size w w4 := (hB.alloc hB.size _).trans (hW4.below (by have := hB.size; simp; omega) (fun j hj hs => feet_old hf hfd HDD0.out hs hj)); have hA6 := id hA4'; obtain ⟨Aa, ca, na, nc, ecs, hba, hna⟩ := hA6; subst ecs; have HH4 := Lib.hid hH4; have HD4 := Lib.hid hD4; clear hA4 hba hna hat4 hW4 hH4 hD4)
          | (at_builtin; refine OwnRow.append (w0 := w) (R := AnsN w4 (fun j => Feet f fd dv1 j ∨ u10.ownBlock = some j)) w.heap.size rfl (.tmp 27) (.tmp 31) 36 42 (.agg #[.int .i64 0, .int .i64 0, .int .i64 0, .slice none 0 0, .slice none 0 0, .slice none 0 0]) 6 96 rfl Tryd.underlying36 info42' rfl (by decide) (by decide) u10 l1 D.1 [.int .i64 D.1.e, .int .i64 D.1.n, .int .i64 D.1.off, .slice Aa D.1.data.length ca, .slice na 0 nc, .slice none 0 0] rfl (by simp [Act.eval]) hA4' rfl (AnsN.one hA4') hO4 hB4 hB4.size (by omega) ?_; intro v5 w5 hO5 hB5 hg5 hat5))
        go_roundw
        case rel =>
          refine ⟨k + 1, by omega, by go_num, dv1, ?_, ?_, ?_, hB5⟩
          · rw [HER.out]
            have h := HH4.out.wrote (wrote_grown hg5) (fun e => row_ne_h hO4 HH4.out e)
            rw [← HDD.out] at h
            exact h
          · rw [HER.out]
            have h := HD4.out.wrote (wrote_grown hg5) (fun e => own_ne_d hO4 HD4.out e) (fun j hj e => own_ne_r hO4 HD4.out e hj)
            rw [← HDD.out] at h
            exact h
          · rw [HEA.out]
            exact ansN_append hO5 hg5 hat5
        case measure => simp [intOf]; omega
      · obtain rfl : k = L.length := by omega
        rw [List.take_length] at hH hD hO
        have hn1 : (runP (⟨0, false, false, data⟩, q) L).1.bs.length ≤ 8192 := hgE.out
        obtain ⟨⟨r1, r2⟩, hR⟩ : ∃ R, runP (⟨0, false, false, data⟩, q) L = R := ⟨_, rfl⟩
        obtain ⟨l1, hl1⟩ : ∃ l1, ansP (⟨0, false, false, data⟩, q) L = l1 := ⟨_, rfl⟩
        rw [hR] at hn1 hH hD
        rw [hl1] at hO
        simp only at hn1 hH hD
        have HR := Lib.hid hR
        have HL1 := Lib.hid hl1
        obtain ⟨Ad, cd, rfl, hbd⟩ := BytesIn.own (show wr.ownsRow w.heap.size tU8 1 dv r1.bs.length (r1.bs.map (Value.int .u8)) from hD.2.1) hD.2.2
        have HD := Lib.hid hD
        have HO := Lib.hid hO
        clear hR hl1 hH hD hO
        go_wp2_with (first
          | (go_at_call 24; refine (door_bytes fd w.heap.size _ r1.fd wr HD.out).mono ?_; rintro e w4 ⟨rfl, rfl⟩)
          | (at_builtin; refine append_src rfl (.const (.slice none 0 0)) (.tmp 36) 22 rfl wr.heap.size 5 _ (.int .u8 0) 1 1 Tryd.underlying22 rfl rfl rfl rfl rfl (by decide) (.slice none 0 0) 0 [] rfl (World.ownsRow_nil _ _ _ _) Ad r1.bs.length cd (r1.bs.map (Value.int .u8)) rfl (hbd.src).1 hbd.nil hbd.cells (hbd.src).2.2.2 (by unfold maxLen; omega) (by omega) (Nat.le_refl _) ?_; intro v5 w5 ho5 hg5; rw [Nat.zero_add, List.nil_append] at ho5; obtain ⟨A5, c5, e5, hb5⟩ := BytesIn.own ho5 HD.out.2.2; subst e5; have hB5 : Below wr.heap.size wr w5 := ⟨hg5.os, hg5.tape, hg5.output, hg5.size, fun k hk => hg5.block k hk (by simp [Value.ownBlock])⟩))
        go_ret2
        rw [HR.out, HL1.out]
        exact ⟨_, A5, c5, rfl, ((HO.out.imp_ (fun p c hp => AnsN.bad (AnsN.below hp hB5) (fun _ h => h.elim))).below hB5), hb5, hB.trans (hB5.mono hB.size)⟩
end Go.Proofs.YtnkhfdnahnphdaaDoor
end
section
namespace Go.Proofs.YtnkhfdnahnphdaaDoor
open Go.ChangeShapes Go.WideShapes Go.ChangeAt Go.RowKit Go.Rd
open Go.Proofs.YtnkhfdnahnphdaaDoorW.PrintWords Go.Proofs.YtnkhfdnahnphdaaDoorW.PrintLast Go.Proofs.YtnkhfdnahnphdaaDoorW.PrintMore
set_option linter.unusedVariables false
set_option linter.unusedSectionVars false
section
variable (A1 : Option Addr) (m1 c1 : Nat) (l1 : List Int) (A2 : Option Addr) (m2 c2 : Nat) (l2 : List Int) (A3 : Option Addr) (c3 : Nat) (L : List Sx) (w : World) (hb1 : BytesIn w A1 m1 c1 l1) (hb2 : BytesIn w A2 m2 c2 l2) (hS : ReadsRow (StepK w) 10 w A3 L.length L) (hc3 : L.length ≤ c3) (hse : ∃ ad, Sents w.heap.size w ad)
include hb1 hb2 hS hc3 hse
set_option maxRecDepth 100000 in
set_option maxHeartbeats 4000000 in
theorem rl_small (ro : Bool) (g1 : m1 ≤ 4096) (g2 : m2 ≤ 4096) (g3 : L.length ≤ 20) : Calls Tryd.prog 8 #[.slice A1 m1 c1, .slice A2 m2 c2, .bool ro, .slice A3 L.length c3] w fun e w' => e = .returned (.bool true) ∧ Below w.heap.size w w' := by
  have hfit := fit_of hS
  have hz := fits_steps A3 c3 L w hS
  have hrun := fun (W : World) (hB : Below w.heap.size w W) => Sb.union_run A1 m1 c1 l1 A2 m2 c2 l2 ro A3 c3 L W (hb1.below hB) (hb2.below hB) g1 g2 (steps_below hS hB) (by omega) (Lib.hid hfit)
  have hsen := fun (W : World) (hB : Below w.heap.size w W) => (show ∃ ad, Sents W.heap.size W ad from by obtain ⟨ad, h⟩ := hse; exact ⟨ad, (h.below hB).mono hB.size⟩)
  have hun := fun (W : World) (hB : Below w.heap.size w W) (hsp : SpkAll (⟨0, false, ro, l1⟩, ⟨0, false, ro, l2⟩) L) => union_script A1 m1 c1 l1 A2 m2 c2 l2 ro A3 c3 L W (hb1.below hB) (hb2.below hB) g1 g2 (steps_below hS hB) (by omega) (Lib.hid hsp) (Lib.hid hfit) (Lib.hid (hsen W hB))
  have hgq : Good 0 (⟨0, false, ro, l2⟩ : St) := ⟨by have := hb2.len; simp only; omega, by simp, by simp, hb2.fits⟩
  have hsc := fun (W : World) (hB : Below w.heap.size w W) (hsp : SpkAll (⟨0, false, ro, l1⟩, ⟨0, false, ro, l2⟩) L) => script_doF A1 m1 c1 l1 ro ⟨0, false, ro, l2⟩ A3 c3 L W (hb1.below hB) g1 hgq (steps_below hS hB) (by omega) (Lib.hid hsp) (Lib.hid hfit) (Lib.hid (hsen W hB))
  have hlen : (ansP (⟨0, false, ro, l1⟩, ⟨0, false, ro, l2⟩) L).length = L.length := ansP_length _ _
  have HZ := Lib.hid hz
  have HRUN := Lib.hid hrun
  obtain ⟨l, hl⟩ : ∃ l, ansP (⟨0, false, ro, l1⟩, ⟨0, false, ro, l2⟩) L = l := ⟨_, rfl⟩
  obtain ⟨⟨r1, r2⟩, hR⟩ : ∃ R, runP (⟨0, false, ro, l1⟩, ⟨0, false, ro, l2⟩) L = R := ⟨_, rfl⟩
  rw [hl] at hun hsc hlen
  rw [hR] at hun hsc
  simp only at hun hsc
  have HUN := Lib.hid hun
  have HSC := Lib.hid hsc
  have HLEN := Lib.hid hlen
  clear hz hrun hun hsc hlen hl hR hgq hsen hse hfit hS hb1 hb2
  have t1 : decide ((2147483647 : Int) < (m1 : Int)) = false := decide_eq_false (by omega)
  have t2 : decide ((2147483647 : Int) < (m2 : Int)) = false := decide_eq_false (by omega)
  have t3 : decide ((20 : Int) < (L.length : Int)) = false := decide_eq_false (by omega)
  have t4 : decide ((4096 : Int) < (m1 : Int)) = false := decide_eq_false (by omega)
  have t5 : decide ((4096 : Int) < (m2 : Int)) = false := decide_eq_false (by omega)
  go_enter Tryd.func8, Tryd.ntmps8
  go_wp2_with (first
    | (go_at_call 16; refine (HRUN.out _ hBz).mono ?_; rintro e w2 ⟨B1, n1, d1, B2, n2, d2, B3, n3, d3, r, rfl, hr, hB2⟩; have hB3 := hBz.trans (hB2.mono hBz.size); clear hB2; cases r)
    | (go_at_call 15; refine HZ.out.mono ?_; rintro e w1 ⟨rz, rfl, hBz⟩; cases rz))
  · go_ret
    exact ⟨rfl, hBz⟩
  · go_ret
    exact ⟨rfl, hB3⟩
  have hsp := hr (by first | rfl | trivial)
  refine (HUN.out _ hB3 hsp).mono ?_
  rintro e w4 ⟨v, lA, lc, bA, bc, rfl, hO4, hb4, hb5, hB4'⟩
  have hB4 := hB3.trans (hB4'.mono hB3.size)
  obtain ⟨Av, cv, rfl⟩ : ∃ Av cv, v = .slice Av L.length cv := by
    obtain ⟨inner, ho, _⟩ := hO4
    obtain ⟨A, c, h⟩ := own_slice ho
    rw [HLEN.out] at h
    exact ⟨A, c, h⟩
  have HO4 := Lib.hid hO4
  have HB4 := Lib.hid hB4
  have HB5 := Lib.hid hb4
  have HSP := Lib.hid hsp
  clear hO4 hb4 hb5 hB4 hB4' hB3 hBz hr HUN HRUN HZ hsp
  go_wp2_with fail
  refine (HSC.out _ HB4.out HSP.out).mono ?_
  rintro e w5 ⟨v5, lA5, lc5, rfl, hO5, hb5, hB5⟩
  obtain ⟨Aw, cw, rfl⟩ : ∃ Aw cw, v5 = .slice Aw L.length cw := by
    obtain ⟨inner, ho, _⟩ := hO5
    obtain ⟨A, c, h⟩ := own_slice ho
    rw [HLEN.out] at h
    exact ⟨A, c, h⟩
  have hB45 := HB4.out.trans (hB5.mono HB4.out.size)
  have hO4' := (HO4.out.imp_ (fun p c hp => AnsN.below hp hB5)).below hB5
  have hsa := same_answers l _ _ _ _ w5 hO4' hO5 (by rw [HLEN.out]; omega)
  have HSA := Lib.hid hsa
  have hb4' := HB5.out.below hB5
  have HBB := Lib.hid (show BytesIn w5 lA r1.bs.length lc r1.bs ∧ BytesIn w5 lA5 r1.bs.length lc5 r1.bs from ⟨hb4', hb5⟩)
  have HB45 := Lib.hid hB45
  clear hO4' hO5 hsa hb5 hb4' hB5 hB45 HSC HO4
  have e0 : ((L.length : Int) == (L.length : Int)) = true := by simp
  go_wp2_with (go_at_call 18; refine HSA.out.mono ?_; rintro e w6 ⟨rfl, hB6⟩; have z1 := bytes_string (HBB.out.1.below hB6); have z2 := bytes_string (HBB.out.2.below hB6); have hB56 := HB45.out.trans (hB6.mono HB45.out.size); clear hB6)
  go_ret
  exact ⟨rfl, hB56⟩
set_option maxRecDepth 100000 in
set_option maxHeartbeats 2000000 in
theorem rl_law (ro : Bool) : Calls Tryd.prog 8 #[.slice A1 m1 c1, .slice A2 m2 c2, .bool ro, .slice A3 L.length c3] w fun e w' => e = .returned (.bool true) ∧ Below w.heap.size w w' := by
  have HZ := Lib.hid (fits_steps A3 c3 L w hS)
  by_cases t1 : m1 ≤ 2147483647
  rotate_left
  · have t1 : decide ((2147483647 : Int) < (m1 : Int)) = true := decide_eq_true (by omega)
    clear hse hS hb1 hb2 HZ
    go_enter Tryd.func8, Tryd.ntmps8
    go_wp2_with fail
    go_ret
    exact ⟨rfl, Below.refl _ _⟩
  by_cases t2 : m2 ≤ 2147483647
  rotate_left
  · have t1 : decide ((2147483647 : Int) < (m1 : Int)) = false := decide_eq_false (by omega)
    have t2 : decide ((2147483647 : Int) < (m2 : Int)) = true := decide_eq_true (by omega)
    clear hse hS hb1 hb2 HZ
    go_enter Tryd.func8, Tryd.ntmps8
    go_wp2_with fail
    go_ret
    exact ⟨rfl, Below.refl _ _⟩
  by_cases g3 : L.length ≤ 20
  rotate_left
  · have t1 : decide ((2147483647 : Int) < (m1 : Int)) = false := decide_eq_false (by omega)
    have t2 : decide ((2147483647 : Int) < (m2 : Int)) = false := decide_eq_false (by omega)
    have t3 : decide ((20 : Int) < (L.length : Int)) = true := decide_eq_true (by omega)
    clear hse hS hb1 hb2 g3
    go_enter Tryd.func8, Tryd.ntmps8
    go_wp2_with (go_at_call 15; refine HZ.out.mono ?_; rintro e w1 ⟨rz, rfl, hBz⟩; cases rz)
    all_goals
      go_ret
      exact ⟨rfl, hBz⟩
  by_cases g1 : m1 ≤ 4096
  rotate_left
  · have t1 : decide ((2147483647 : Int) < (m1 : Int)) = false := decide_eq_false (by omega)
    have t2 : decide ((2147483647 : Int) < (m2 : Int)) = false := decide_eq_false (by omega)
    have t3 : decide ((20 : Int) < (L.length : Int)) = false := decide_eq_false (by omega)
    have t4 : decide ((4096 : Int) < (m1 : Int)) = true := decide_eq_true (by omega)
    clear hse hS hb1 hb2 g1
    go_enter Tryd.func8, Tryd.ntmps8
    go_wp2_with (go_at_call 15; refine HZ.out.mono ?_; rintro e w1 ⟨rz, rfl, hBz⟩; cases rz)
    all_goals
      go_ret
      exact ⟨rfl, hBz⟩
  by_cases g2 : m2 ≤ 4096
  rotate_left
  · have t1 : decide ((2147483647 : Int) < (m1 : Int)) = false := decide_eq_false (by omega)
    have t2 : decide ((2147483647 : Int) < (m2 : Int)) = false := decide_eq_false (by omega)
    have t3 : decide ((20 : Int) < (L.length : Int)) = false := decide_eq_false (by omega)
    have t4 : decide ((4096 : Int) < (m1 : Int)) = false := decide_eq_false (by omega)
    have t5 : decide ((4096 : Int) < (m2 : Int)) = true := decide_eq_true (by omega)
    clear hse hS hb1 hb2 g2
    go_enter Tryd.func8, Tryd.ntmps8
    go_wp2_with (go_at_call 15; refine HZ.out.mono ?_; rintro e w1 ⟨rz, rfl, hBz⟩; cases rz)
    all_goals
      go_ret
      exact ⟨rfl, hBz⟩
  · exact rl_small A1 m1 c1 l1 A2 m2 c2 l2 A3 c3 L w hb1 hb2 hS hc3 hse ro g1 g2 g3
end
theorem rl_main (w : World) (a1 : Option Addr) (n1 c1 : Nat) (z1 : List Int) (h1 : IsRow .u8 w a1 n1 c1 z1) (a2 : Option Addr) (n2 c2 : Nat) (z2 : List Int) (h2 : IsRow .u8 w a2 n2 c2 z2) (ro : Bool) (a3 : Option Addr) (n3 c3 : Nat) (h3 : IsRows stepKs w a3 n3 c3) (hL : laidMetH Tryd.prog Rows.fnUnionReadsLayerRow.laid w) :
    Calls Tryd.prog 8 #[.slice a1 n1 c1, .slice a2 n2 c2, .bool ro, .slice a3 n3 c3] w fun e w' => e = .returned (.bool true) ∧ Below w.heap.size w w' := by
  have hse : ∃ ad, Sents w.heap.size w ad := sents_of hL
  obtain ⟨l3, rfl, r3, e3⟩ := steps_of h3
  exact rl_law a1 n1 c1 _ a2 n2 c2 _ a3 c3 l3 w (BytesIn.of_row h1) (BytesIn.of_row h2) r3 e3 hse ro
end Go.Proofs.YtnkhfdnahnphdaaDoor
end
