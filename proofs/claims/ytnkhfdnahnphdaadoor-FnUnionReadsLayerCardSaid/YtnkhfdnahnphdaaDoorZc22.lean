/- Parts of the proof, merged: Ss, Su. -/
import Derived.Test.YtnkhfdnahnphdaaDoorZc19
import Derived.Test.YtnkhfdnahnphdaaDoorZc21
section
namespace Go.Proofs.YtnkhfdnahnphdaaDoor
open Go.ChangeShapes Go.WideShapes Go.ChangeAt Go.RowKit Go.Rd Go.Maps
open Go.Proofs.YtnkhfdnahnphdaaDoorW.PrintWords Go.Proofs.YtnkhfdnahnphdaaDoorW.PrintLast Go.Proofs.YtnkhfdnahnphdaaDoorW.PrintMore
set_option linter.unusedVariables false
set_option linter.unusedSimpArgs false
namespace Sb
theorem infoN : (Tryd.prog.info? tN).map (fun i => (i.zero, i.size, i.bytes)) = some (some (.agg #[.bool false, .int .i64 0, .slice none 0 0, .int .i64 0, .string ⟨#[]⟩]), 5, 64) := by kernel_rfl
theorem nodes_slice {w : World} {B : Nat} {dv : Value} {l : List SN} (h : NodesIs w B dv l) : ∃ A c, dv = .slice A l.length c := by
  obtain ⟨inner, ho, _⟩ := h
  exact own_slice ho
theorem nodes_typed {w : World} {B : Nat} {dv : Value} {l : List SN} (h : NodesIs w B dv l) (k : Nat) (hk : dv.ownBlock = some k) : ∃ c, w.heap[k]? = some (.cells c tN (0, 0)) := by
  obtain ⟨inner, ho, _⟩ := h
  exact own_typed ho k hk
theorem nodes_grown {W w1 : World} {B : Nat} {v dv : Value} {l l' : List SN} (hO : OwnRow (NodeK W B) tN 5 w1 B v l') (hD : NodesIs W B dv l) (hg : W.grownBy w1 dv.ownBlock) : NodesIs w1 B v l' :=
  hO.imp_ (fun p c h => by
    obtain ⟨u, h1, h2, h3⟩ := h
    refine ⟨u, h1, own_move h2 (fun k hk => hg.block k (own_lt h2 k hk) (fun e => ?_)), h3⟩
    obtain ⟨c1, hc1⟩ := own_typed h2 k hk
    obtain ⟨c2, hc2⟩ := nodes_typed hD k e.symm
    exact blk_ne hc1 hc2 (by decide) rfl)
set_option maxRecDepth 100000 in
set_option maxHeartbeats 2000000 in
theorem add_new (m B mb g1 c1 g2 c2 : Nat) (dv : Value) (nodes : List SN) (l : List ByteArray) (ats : List Int) (x : ByteArray) (w : World) (dir : Bool) (mode time : Int) (bs : List Int) (nm : ByteArray) (D : Option Addr) (dc : Nat) (hM : MemIs w m (.slice (some ⟨g1, 0, none⟩) l.length c1) (.slice (some ⟨g2, 0, none⟩) ats.length c2) dv mb) (hN : NamesIs w B (.slice (some ⟨g1, 0, none⟩) l.length c1) l) (hA : AtsIs w B (.slice (some ⟨g2, 0, none⟩) ats.length c2) ats) (hD : NodesIs w B dv nodes) (hla : ats.length = l.length) (hl : l.length ≤ 100000) (hnl : nodes.length ≤ 100000) (i : Nat) (hp : placeOf l x = (i, false)) (hi : i ≤ l.length) (hB : B ≤ w.heap.size)
    (hrow : w.ownsRow B 5 1 (.slice D bs.length dc) bs.length (bs.map (.int .u8))) (hfit : ∀ c ∈ bs, 0 ≤ c ∧ c ≤ 255) :
    Calls Tryd.prog 48 #[.pointer (some ⟨m, 0, none⟩), .string x, .agg #[.bool dir, .int .i64 mode, .slice D bs.length dc, .int .i64 time, .string nm]] w fun e w' => ∃ nv av dv', e = .returned (.int .i64 nodes.length) ∧ MemIs w' m nv av dv' mb ∧ NamesIs w' B nv (l.take i ++ x :: l.drop i) ∧ AtsIs w' B av (ats.take i ++ (nodes.length : Int) :: ats.drop i) ∧ NodesIs w' B dv' (nodes ++ [⟨dir, mode, bs, time, x⟩]) ∧ Wrote (fun k => k = m ∨ k = g1 ∨ k = g2 ∨ dv.ownBlock = some k) w w' := by
  obtain ⟨DA, dcap, rfl⟩ := nodes_slice hD
  have hBs : Below w.heap.size w (w.alloc (.cells #[.bool dir, .int .i64 mode, .slice D bs.length dc, .int .i64 time, .string x] tN)) := (Below.refl _ _).alloc (Nat.le_refl _) _
  have HM := Lib.hid hM
  have HN := Lib.hid hN
  have HA := Lib.hid hA
  have HD := Lib.hid hD
  have HROW := Lib.hid hrow
  have HFIT := Lib.hid hfit
  have HP := Lib.hid hp
  clear hM hN hA hD hrow hfit hp
  go_enter Tryd.func48, Tryd.ntmps48
  go_upto_region 2 with fail
  refine world_as (fun W => Below w.heap.size w W ∧ W.heap[w.heap.size]? = some (.cells #[.bool dir, .int .i64 mode, .slice D bs.length dc, .int .i64 time, .string x] tN (0, 0)) ∧ W.heap.size = w.heap.size + 1) ⟨(Below.refl _ _).alloc (Nat.le_refl _) _, alloc_new _ _, by simp⟩ (fun W hW => ?_)
  obtain ⟨hB0, hs0, hsz⟩ := hW
  have hM0 := HM.out.below hB0
  have m2 := (cell_of hM0 2).trans rfl
  have s0 := (cell_of hs0 0).trans rfl
  have s1 := (cell_of hs0 1).trans rfl
  have s2 := (cell_of hs0 2).trans rfl
  have s3 := (cell_of hs0 3).trans rfl
  have s4 := (cell_of hs0 4).trans rfl
  have HB0 := Lib.hid hB0
  have HM0 := Lib.hid hM0
  have HS0 := Lib.hid hs0
  have HSZ := Lib.hid hsz
  obtain ⟨sb, hsb⟩ : ∃ sb, w.heap.size = sb := ⟨_, rfl⟩
  rw [hsb] at s0 s1 s2 s3 s4 HS0 ⊢
  have HSB := Lib.hid hsb
  clear hB0 hM0 hs0 hsz hsb hBs
  refine Rg.start 8 (fun w' => w'.cell? ⟨m, 2, none⟩ = some (.slice DA nodes.length dcap) ∧ w'.cell? ⟨sb, 0, none⟩ = some (.bool dir) ∧ w'.cell? ⟨sb, 1, none⟩ = some (.int .i64 mode) ∧ w'.cell? ⟨sb, 2, none⟩ = some (.slice D bs.length dc) ∧ w'.cell? ⟨sb, 3, none⟩ = some (.int .i64 time) ∧ w'.cell? ⟨sb, 4, none⟩ = some (.string x)) (by kernel_rfl) ⟨m2, s0, s1, s2, s3, s4⟩ (fun hHeld => ?_)
  refine Rg.take (i := 0) (v := ?_) rfl (by kernel_rfl) (by kernel_rfl) (by kernel_rfl) (by kernel_rfl) (by kernel_rfl) (by kernel_rfl) (fun _ _ _ h => h) (Or.inl ⟨by rfl, ?_⟩) (by assumption) ?_
  rotate_left
  · (intro w hSw; (try dsimp only at hSw); go_split_ands; go_simp) <;> with_reducible rfl
  (try simp only [Act.put, List.setIfInBounds_toArray, List.set_cons_zero, List.set_cons_succ, List.getElem_toArray, List.getElem_cons_succ, List.getElem_cons_zero])
  refine Rg.take (i := 1) (v := ?_) rfl (by kernel_rfl) (by kernel_rfl) (by kernel_rfl) (by kernel_rfl) (by kernel_rfl) (by kernel_rfl) (fun _ _ _ h => h) (Or.inl ⟨by rfl, ?_⟩) (by assumption) ?_
  rotate_left
  · (intro w hSw; (try dsimp only at hSw); go_split_ands; go_simp) <;> with_reducible rfl
  (try simp only [Act.put, List.setIfInBounds_toArray, List.set_cons_zero, List.set_cons_succ, List.getElem_toArray, List.getElem_cons_succ, List.getElem_cons_zero])
  refine Rg.take (i := 2) (v := ?_) rfl (by kernel_rfl) (by kernel_rfl) (by kernel_rfl) (by kernel_rfl) (by kernel_rfl) (by kernel_rfl) (fun _ _ _ h => h) (Or.inl ⟨by rfl, ?_⟩) (by assumption) ?_
  rotate_left
  · (intro w hSw; (try dsimp only at hSw); go_split_ands; go_simp) <;> with_reducible rfl
  (try simp only [Act.put, List.setIfInBounds_toArray, List.set_cons_zero, List.set_cons_succ, List.getElem_toArray, List.getElem_cons_succ, List.getElem_cons_zero])
  refine Rg.take (i := 3) (v := ?_) rfl (by kernel_rfl) (by kernel_rfl) (by kernel_rfl) (by kernel_rfl) (by kernel_rfl) (by kernel_rfl) (fun _ _ _ h => h) (Or.inl ⟨by rfl, ?_⟩) (by assumption) ?_
  rotate_left
  · (intro w hSw; (try dsimp only at hSw); go_split_ands; go_simp) <;> with_reducible rfl
  (try simp only [Act.put, List.setIfInBounds_toArray, List.set_cons_zero, List.set_cons_succ, List.getElem_toArray, List.getElem_cons_succ, List.getElem_cons_zero])
  refine Rg.take (i := 4) (v := ?_) rfl (by kernel_rfl) (by kernel_rfl) (by kernel_rfl) (by kernel_rfl) (by kernel_rfl) (by kernel_rfl) (fun _ _ _ h => h) (Or.inl ⟨by rfl, ?_⟩) (by assumption) ?_
  rotate_left
  · (intro w hSw; (try dsimp only at hSw); go_split_ands; go_simp) <;> with_reducible rfl
  (try simp only [Act.put, List.setIfInBounds_toArray, List.set_cons_zero, List.set_cons_succ, List.getElem_toArray, List.getElem_cons_succ, List.getElem_cons_zero])
  refine Rg.take (i := 5) (v := ?_) rfl (by kernel_rfl) (by kernel_rfl) (by kernel_rfl) (by kernel_rfl) (by kernel_rfl) (by kernel_rfl) (fun _ _ _ h => h) (Or.inl ⟨by rfl, ?_⟩) (by assumption) ?_
  rotate_left
  · (intro w hSw; (try dsimp only at hSw); go_split_ands; go_simp) <;> with_reducible rfl
  (try simp only [Act.put, List.setIfInBounds_toArray, List.set_cons_zero, List.set_cons_succ, List.getElem_toArray, List.getElem_cons_succ, List.getElem_cons_zero])
  refine Rg.one (i := 6) rfl (by kernel_rfl) (by kernel_rfl) (fun K hK => ?_)
  go_simp
  have hBL : Below W.heap.size W (W.alloc (.cells #[.bool dir, .int .i64 mode, .slice D bs.length dc, .int .i64 time, .string x] tN)).drew := ((Below.refl _ _).alloc (Nat.le_refl _) _).drew
  have hML := HM0.out.below hBL
  have hSL := (hBL.block _ (lt_of_heap HS0.out)).trans HS0.out
  refine hK.out _ _ ⟨(cell_of hML 2).trans rfl, (cell_of hSL 0).trans rfl, (cell_of hSL 1).trans rfl, (cell_of hSL 2).trans rfl, (cell_of hSL 3).trans rfl, (cell_of hSL 4).trans rfl⟩ (fun hHeld => ?_)
  clear hK K
  (try simp only [Act.put, List.setIfInBounds_toArray, List.set_cons_zero, List.set_cons_succ, List.getElem_toArray, List.getElem_cons_succ, List.getElem_cons_zero])
  refine Rg.one (i := 7) rfl (by kernel_rfl) (by kernel_rfl) (fun K hK => ?_)
  have hBW : Below w.heap.size w W.drew := HB0.out.drew
  have hszW : W.drew.heap.size = w.heap.size + 1 := HSZ.out
  have hDW : NodesIs W.drew B (.slice DA nodes.length dcap) nodes := NodesIs.below HD.out hBW
  have hKW : NodeK W.drew B ⟨dir, mode, bs, time, x⟩ [.bool dir, .int .i64 mode, .slice D bs.length dc, .int .i64 time, .string x] := ⟨_, rfl, own_move HROW.out (fun k hk => hBW.block k (own_lt HROW.out k hk)), HFIT.out⟩
  refine OwnRow.append_step (R := NodeK W.drew B) (w0 := W.drew) (W := W.drew) B (by simp [Region.wanted]) (.tmp 13) (.tmp 15) 76 tN (.agg #[.bool false, .int .i64 0, .slice none 0 0, .int .i64 0, .string ⟨#[]⟩]) 5 64 rfl Tryd.underlying76 infoN rfl (by decide) (by decide) (.slice DA nodes.length dcap) nodes ⟨dir, mode, bs, time, x⟩ [.bool dir, .int .i64 mode, .slice D bs.length dc, .int .i64 time, .string x] (by simp [Act.eval]) (by simp [Act.eval]) hKW rfl (by intro u hu; simp at hu; rcases hu with rfl | rfl | rfl | rfl | rfl <;> rfl) hDW (Below.refl _ _) (by omega) (by omega) ?_
  intro v1 w1 hO1 hB1 hg1 hat1
  have hn1 := nodes_grown hO1 hDW hg1
  have hnlen : (nodes ++ [(⟨dir, mode, bs, time, x⟩ : SN)]).length = nodes.length + 1 := by simp
  obtain ⟨A1, e1, hv1⟩ := nodes_slice hn1
  rw [hnlen] at hv1
  subst hv1
  have hMW : MemIs W.drew m (.slice (some ⟨g1, 0, none⟩) l.length c1) (.slice (some ⟨g2, 0, none⟩) ats.length c2) (.slice DA nodes.length dcap) mb := HM.out.below hBW
  have hmd : (Value.slice DA nodes.length dcap).ownBlock ≠ some m := fun e => by
    obtain ⟨c2, hc2⟩ := nodes_typed hDW m e
    exact blk_ne hMW hc2 (by decide) rfl
  have hM1 := (hg1.block m (lt_of_heap hMW) (fun e => hmd e.symm)).trans hMW
  have hkeep : ∀ {v : Value} {n : Nat} {xs : List Value} {ty : TypeId}, ty ≠ tN → w.ownsRow B ty 1 v n xs → w1.ownsRow B ty 1 v n xs := fun hty ho => own_move ho (fun k hk => by
    have hk' := own_lt ho k hk
    refine (hg1.block k (Nat.lt_of_lt_of_le hk' hBW.size) (fun e => ?_)).trans (hBW.block k hk')
    obtain ⟨c2, hc2⟩ := nodes_typed hDW k e.symm
    obtain ⟨c1, hc1⟩ := own_typed ho k hk
    exact blk_ne ((hBW.block k hk').trans hc1) hc2 hty rfl)
  have hN1 := hkeep (by decide) HN.out
  have hA1 := hkeep (by decide) HA.out
  have hsd1 := hg1.size
  have hW1 : Wrote (fun k => (Value.slice DA nodes.length dcap).ownBlock = some k) w w1 := ⟨hg1.os.trans hBW.os, hg1.tape.trans hBW.tape, hg1.output.trans hBW.output, by omega, fun k hk hs => (hg1.block k (by omega) (fun e => hs e.symm)).trans (hBW.block k hk)⟩
  have hlm := lt_of_heap hM1
  -- the store
  have hM2 : MemIs (w1.setCell ⟨m, 2, none⟩ (.slice A1 (nodes.length + 1) e1)) m (.slice (some ⟨g1, 0, none⟩) l.length c1) (.slice (some ⟨g2, 0, none⟩) ats.length c2) (.slice A1 (nodes.length + 1) e1) mb := Go.Rd.heap_setCell_same (o := 2) hM1 _
  have hws := wrote_set w1 m 2 (.slice A1 (nodes.length + 1) e1)
  have hrow2 : ∀ {v : Value} {n : Nat} {xs : List Value} {ty : TypeId}, ty ≠ tMem → w1.ownsRow B ty 1 v n xs → (w1.setCell ⟨m, 2, none⟩ (.slice A1 (nodes.length + 1) e1)).ownsRow B ty 1 v n xs := fun hty ho => own_move ho (fun k hk => hws.block k (own_lt ho k hk) (fun e => by
    obtain ⟨c1, hc1⟩ := own_typed ho k hk
    exact blk_ne hc1 hM1 hty e))
  have hN2 := hrow2 (by decide) hN1
  have hA2 := hrow2 (by decide) hA1
  have hn2 := NodesIs.wrote hn1 hws (fun k c fr e hc => by
    subst e
    rw [hM1] at hc
    injection hc with hc
    injection hc with _ hc
    exact absurd hc (by decide)) (fun k hk e => by
    obtain ⟨c2, hc2⟩ := nodes_typed hn1 k hk
    exact blk_ne hc2 hM1 (by decide) e)
  have hW2 : Wrote (fun k => k = m ∨ (Value.slice DA nodes.length dcap).ownBlock = some k) w (w1.setCell ⟨m, 2, none⟩ (.slice A1 (nodes.length + 1) e1)) := (hW1.mono (fun _ _ h => .inr h)).setCell (fun _ => .inl rfl) _
  have hm1 := (cell_of hM1 2).trans rfl
  have hf1 := free_of hM1 2
  have hm2 := (cell_of hM2 2).trans rfl
  have hB2 : B ≤ (w1.setCell ⟨m, 2, none⟩ (.slice A1 (nodes.length + 1) e1)).heap.size := by
    have := hW2.size
    omega
  have hSW : W.drew.heap[sb]? = some (.cells #[.bool dir, .int .i64 mode, .slice D bs.length dc, .int .i64 time, .string x] tN (0, 0)) := HS0.out
  have hsbd : (Value.slice DA nodes.length dcap).ownBlock ≠ some sb := fun e => by
    obtain ⟨inner, ho, _⟩ := HD.out
    have := own_lt ho sb e
    rw [HSB.out] at this
    omega
  have hS1 := (hg1.block sb (lt_of_heap hSW) (fun e => hsbd e.symm)).trans hSW
  refine hK.out _ _ ⟨hm1, (cell_of hS1 0).trans rfl, (cell_of hS1 1).trans rfl, (cell_of hS1 2).trans rfl, (cell_of hS1 3).trans rfl, (cell_of hS1 4).trans rfl⟩ (fun hHeld => ?_)
  clear hK K
  (try simp only [Act.put, List.setIfInBounds_toArray, List.set_cons_zero, List.set_cons_succ, List.getElem_toArray, List.getElem_cons_succ, List.getElem_cons_zero])
  refine Rg.rest _ rfl rfl (by kernel_rfl) (by kernel_rfl) ?_
  simp only [List.drop_succ_cons, List.drop_zero]
  have hput := fun q => put_new m B mb g1 c1 g2 c2 (.slice A1 (nodes.length + 1) e1) l ats x q _ hM2 hN2 hA2 hla hl i HP.out hi hB2
  have HPUT := Lib.hid hput
  have HM2 := Lib.hid hM2
  have HNM2 := Lib.hid hN2
  have HAM2 := Lib.hid hA2
  have HW2 := Lib.hid hW2
  have HN2 := Lib.hid hn2
  clear hput hW2 hn2 hM2 hN2 hA2 hB2 hW1 hws hrow2 hkeep hN1 hA1 hn1 hMW hmd hM1 hSW hsbd hS1 hO1 hB1 hg1 hat1 hDW hKW hBW hszW hBL hML hSL hlm hsd1 hHeld m2 s0 s1 s2 s3 s4
  go_wp2_with (go_at_call 73; refine (HPUT.out _).mono ?_; rintro e w3 ⟨nv, av, rfl, hM3, hN3, hA3, hW3⟩; have hm3 := (cell_of hM3 2).trans rfl)
  go_ret
  have hty : ∀ k, (k = m ∨ k = g1 ∨ k = g2) → ∃ c ty fr, (w1.setCell ⟨m, 2, none⟩ (.slice A1 (nodes.length + 1) e1)).heap[k]? = some (.cells c ty fr) ∧ (ty = tMem ∨ ty = 9 ∨ ty = 3) := by
    rintro k (rfl | rfl | rfl)
    · exact ⟨_, _, _, HM2.out, .inl rfl⟩
    · obtain ⟨c, hc⟩ := own_typed HNM2.out k rfl
      exact ⟨_, _, _, hc, .inr (.inl rfl)⟩
    · obtain ⟨c, hc⟩ := own_typed HAM2.out k rfl
      exact ⟨_, _, _, hc, .inr (.inr rfl)⟩
  refine ⟨nv, av, _, rfl, hM3, hN3, hA3, NodesIs.wrote HN2.out hW3 (fun k c fr hs hc => ?_) (fun k hk hs => ?_), ?_⟩
  · obtain ⟨c', ty, fr', h1, h2⟩ := hty k hs
    rw [hc] at h1
    injection h1 with h1
    injection h1 with _ h1
    subst h1
    rcases h2 with e | e | e <;> exact absurd e (by decide)
  · obtain ⟨c', ty, fr', h1, h2⟩ := hty k hs
    obtain ⟨c2, hc2⟩ := nodes_typed HN2.out k hk
    rw [hc2] at h1
    injection h1 with h1
    injection h1 with _ h1
    subst h1
    rcases h2 with e | e | e <;> exact absurd e (by decide)
  · refine (HW2.out.mono (fun k _ h => ?_)).trans (hW3.mono (fun k _ h => ?_))
    · rcases h with h | h
      · exact .inl h
      · exact .inr (.inr (.inr h))
    · rcases h with h | h | h
      · exact .inl h
      · exact .inr (.inl h)
      · exact .inr (.inr (.inl h))
end Sb
end Go.Proofs.YtnkhfdnahnphdaaDoor
end
section
namespace Go.Proofs.YtnkhfdnahnphdaaDoor
open Go.ChangeShapes Go.WideShapes Go.ChangeAt Go.RowKit Go.Rd Go.Maps
open Go.Proofs.YtnkhfdnahnphdaaDoorW.PrintWords Go.Proofs.YtnkhfdnahnphdaaDoorW.PrintLast Go.Proofs.YtnkhfdnahnphdaaDoorW.PrintMore
set_option linter.unusedVariables false
set_option linter.unusedSimpArgs false
namespace Sb
theorem slash_place : placeOf [⟨#[47]⟩] ⟨#[47, 102]⟩ = (1, false) := by kernel_rfl
theorem one_slice {w : World} {B n : Nat} {e : TypeId} {v : Value} {xs : List Value} (h : w.ownsRow B e 1 v n xs) (hn : 0 < n) : ∃ g c, v = .slice (some ⟨g, 0, none⟩) n c := by
  rcases h.2 with ⟨_, h'⟩ | ⟨g', cap', cur, h', _⟩
  · omega
  · exact ⟨_, _, h'⟩
theorem um_less {w : World} {B B' m hb : Nat} {dv : Value} {s : St} {t : Int} (h : UM w B m hb dv s t) (hB : B' ≤ B) : UM w B' m hb dv s t := by
  obtain ⟨⟨nv, av, mb, nm, F, names, ats, hM, hP, hF, hN, hA, hl, hl2⟩, hh, ⟨inner, ho, hr⟩⟩ := h
  exact ⟨⟨nv, av, mb, nm, F, names, ats, hM, hP, hF, row_le hN hB, row_le hA hB, hl, hl2⟩, hh, ⟨inner, row_le ho hB, hr.imp_ (fun p c h => by
    obtain ⟨u, h1, h2, h3⟩ := h
    exact ⟨u, h1, row_le h2 hB, h3⟩)⟩⟩
set_option maxRecDepth 100000 in
set_option maxHeartbeats 2000000 in
theorem one_open (A : Option Addr) (m c : Nat) (data : List Int) (ro : Bool) (w : World) (hb : BytesIn w A m c data) (hm : m ≤ 1000000) :
    Calls Tryd.prog 26 #[.slice A m c, .bool ro] w fun e w' => ∃ p hb dv, e = .returned (.pointer (some ⟨p, 0, none⟩)) ∧ UM w' w.heap.size p hb dv ⟨0, false, ro, data⟩ 0 ∧ w.heap.size ≤ hb ∧ Below w.heap.size w w' := by
  have hml : data.length = m := hb.len
  go_enter Tryd.func26, Tryd.ntmps26
  go_wp2_with (first
    | (at_builtin; refine append_src rfl (.tmp 9) (.tmp 10) 22 rfl w.heap.size 5 _ (.int .u8 0) 1 1 Tryd.underlying22 rfl rfl rfl rfl rfl (by decide) (.slice (some ⟨w1.heap.size, 0, none⟩) 0 0) 0 [] rfl (World.ownsRow_lit (base := w.heap.size) (e := 5) (size := 1) w1 #[] 0 hB1.size (by decide) rfl) A m c (data.map (Value.int .u8)) rfl (hb.src).1 hb.nil (hb.below (hB1.alloc hB1.size _)).cells (hb.src).2.2.2 (by unfold maxLen; omega) (by omega) (by simp; have := hB1.size; omega) ?_; intro v2 w2 ho2 hg2; rw [Nat.zero_add, List.nil_append] at ho2; obtain ⟨A2, c2, ev2⟩ := own_slice ho2; subst ev2)
    | (go_at_call 47; refine (new_mem w).mono ?_; rintro e w1 ⟨p, mb, rfl, ⟨nv, av, dv, hM1, hN1, hA1, hD1, hP1⟩, hp1, hmb1, hB1⟩))
  obtain ⟨g1, c1, rfl⟩ := one_slice hN1 (by decide)
  obtain ⟨g2, c3, rfl⟩ := one_slice hA1 (by decide)
  subst hml
  have hB2 : Below w1.heap.size w1 w2 := by
    have h0 : Below w1.heap.size w1 (w1.alloc (.cells #[] 5)) := (Below.refl _ _).alloc (Nat.le_refl _) _
    exact ⟨hg2.os.trans h0.os, hg2.tape.trans h0.tape, hg2.output.trans h0.output, Nat.le_trans h0.size hg2.size, fun k hk => (hg2.block k (Nat.lt_of_lt_of_le hk h0.size) (fun e => by simp [Value.ownBlock] at e; omega)).trans (h0.block k hk)⟩
  have hBw2 : w.heap.size ≤ w2.heap.size := Nat.le_trans hB1.size hB2.size
  have hM2 := hM1.below hB2
  have hN2 : NamesIs w2 w.heap.size (.slice (some ⟨g1, 0, none⟩) 1 c1) [⟨#[47]⟩] := own_move hN1 (fun k hk => hB2.block k (own_lt hN1 k hk))
  have hA2 : AtsIs w2 w.heap.size (.slice (some ⟨g2, 0, none⟩) 1 c3) [0] := own_move hA1 (fun k hk => hB2.block k (own_lt hA1 k hk))
  have hD2 := NodesIs.below hD1 hB2
  have hP2 := hP1.below (B := 0) hB2
  have hbase : ∀ k, (k = p ∨ k = g1 ∨ k = g2 ∨ dv.ownBlock = some k) → w.heap.size ≤ k := by
    rintro k (rfl | rfl | rfl | h)
    · exact hp1
    · exact own_base hN1 k rfl
    · exact own_base hA1 k rfl
    · obtain ⟨inner, ho, _⟩ := hD1
      exact own_base ho k h
  have hnm : ¬ (mb = p ∨ mb = g1 ∨ mb = g2 ∨ dv.ownBlock = some mb) := by
    rintro (e | e | e | e)
    · exact hP2.ne_cells hM2 e.symm
    · obtain ⟨c, hc⟩ := own_typed hN2 mb (by rw [e]; rfl)
      exact hP2.ne_cells hc rfl
    · obtain ⟨c, hc⟩ := own_typed hA2 mb (by rw [e]; rfl)
      exact hP2.ne_cells hc rfl
    · obtain ⟨c, hc⟩ := nodes_typed hD2 mb e
      exact hP2.ne_cells hc rfl
  have hadd := add_new p w.heap.size mb g1 c1 g2 c3 dv [rootN] [⟨#[47]⟩] [0] ⟨#[47, 102]⟩ w2 false 268435456 0 data ⟨#[]⟩ A2 c2 hM2 hN2 hA2 hD2 rfl (by decide) (by decide) 1 slash_place (by decide) hBw2 ho2 hb.fits
  have HADD := Lib.hid hadd
  have HP2 := Lib.hid hP2
  have HB1 := Lib.hid hB1
  have HB2 := Lib.hid hB2
  have HBASE := Lib.hid hbase
  have HNM := Lib.hid hnm
  clear hadd hP2 hP1 hM2 hN2 hA2 hD2 hM1 hN1 hA1 hD1 ho2 hg2 hbase hnm hB2
  have hBx := HB1.out
  clear hB1
  refine HADD.out.mono ?_
  rintro e w3 ⟨nv, av, dv', rfl, hM3, hN3, hA3, hD3, hW3⟩
  have hm3 := (cell_of hM3 3).trans rfl
  have hP3 := HP2.out.wrote hW3 HNM.out
  have hPx := hP3.below (B := 0) ((Below.refl w3.heap.size w3).alloc (Nat.le_refl _) (.cells #[.int .i64 1, .int .i64 0, .int .i64 0, .bool false, .bool ro] tH))
  have HM3 := Lib.hid hM3
  have HN3 := Lib.hid hN3
  have HA3 := Lib.hid hA3
  have HD3 := Lib.hid hD3
  have HW3 := Lib.hid hW3
  have HPX := Lib.hid hPx
  clear hM3 hN3 hA3 hD3 hW3 hP3 hPx
  go_wp2_with (at_mapUpdate; refine wpList_put_pmap _ rfl _ _ _ 77 rfl 3 116 lawI Tryd.underlying77 mb 0 (fun _ => none) rfl HPX.out (by decide) (.int .i64 0) (.int .i64 0) w3.heap.size rfl rfl (keyOf_int_mk Tryd.underlying3 (by decide)) trivial ?_; intro w5 hP5 hT5)
  go_ret
  have hT := (wrote_turned hT5).1
  have hBx : Below w3.heap.size w3 (w3.alloc (.cells #[.int .i64 1, .int .i64 0, .int .i64 0, .bool false, .bool ro] tH)) := (Below.refl _ _).alloc (Nat.le_refl _) _
  have hnew : (w3.alloc (.cells #[.int .i64 1, .int .i64 0, .int .i64 0, .bool false, .bool ro] tH)).heap[w3.heap.size]? = some (.cells #[.int .i64 1, .int .i64 0, .int .i64 0, .bool false, .bool ro] tH (0, 0)) := alloc_new _ _
  have hnc : ∀ {k : Nat} {c : Array Value} {t : TypeId} {fr : Nat × Nat}, (w3.alloc (.cells #[.int .i64 1, .int .i64 0, .int .i64 0, .bool false, .bool ro] tH)).heap[k]? = some (.cells c t fr) → k ≠ mb := fun hc => HPX.out.ne_cells hc
  have hMa := HM3.out.below hBx
  have hkeep : ∀ {v : Value} {n : Nat} {xs : List Value} {ty : TypeId}, w3.ownsRow w.heap.size ty 1 v n xs → w5.ownsRow w.heap.size ty 1 v n xs := fun ho => own_move ho (fun k hk => by
    obtain ⟨c, hc⟩ := own_typed ho k hk
    have hc' := (hBx.block k (own_lt ho k hk)).trans hc
    exact (hT.block k (lt_of_heap hc') (hnc hc')).trans (hBx.block k (own_lt ho k hk)))
  have hDa := NodesIs.below HD3.out hBx
  have hszs : w.heap.size ≤ w3.heap.size := Nat.le_trans HB1.out.size (Nat.le_trans HB2.out.size HW3.out.size)
  refine ⟨p, w3.heap.size, dv', rfl, ⟨⟨nv, av, mb, _, _, _, _, (hT.block p (lt_of_heap hMa) (hnc hMa)).trans hMa, hP5, upd_same _ _ _, hkeep HN3.out, hkeep HA3.out, rfl, by decide⟩, (hT.block _ (lt_of_heap hnew) (hnc hnew)).trans hnew, NodesIs.wrote hDa hT (fun k c fr e hc => hnc hc e) (fun k hk => ?_)⟩, hszs, ?_⟩
  · obtain ⟨c, hc⟩ := nodes_typed hDa k hk
    exact hnc hc
  · have h3 : Below w.heap.size w w3 := by
      have h2 := HB1.out.trans (HB2.out.mono HB1.out.size)
      exact h2.trans (HW3.out.below h2.size (fun k hk hs => by have := HBASE.out k hs; omega))
    have h4 := h3.alloc h3.size (.cells #[.int .i64 1, .int .i64 0, .int .i64 0, .bool false, .bool ro] tH)
    exact h4.trans (hT.below h4.size (fun k hk e => by omega))
end Sb
end Go.Proofs.YtnkhfdnahnphdaaDoor
end
