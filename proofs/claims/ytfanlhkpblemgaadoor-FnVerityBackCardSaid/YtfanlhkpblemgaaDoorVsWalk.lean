/- FnVerityBack: the law's walk. -/
import Derived.Test.YtfanlhkpblemgaaDoorVrWalk
import Derived.Deep.RegionHeld3
namespace Go.Proofs.YtfanlhkpblemgaaDoor
open Go.RowKit Go.Rd
set_option linter.unusedVariables false
set_option linter.unusedSimpArgs false
open Go.Proofs.YtfanlhkpblemgaaDoorW.PrintWords Go.Proofs.YtfanlhkpblemgaaDoorW.PrintLast Go.Proofs.YtfanlhkpblemgaaDoorW.PrintMore

def verZ : Obj := (.cells #[.string ⟨#[]⟩, .string ⟨#[]⟩, .string ⟨#[]⟩, .int .u32 0, .int .u32 0, .int .u64 0, .int .u32 0, .int .i64 0] 46)
theorem set8 {W : World} {b : Nat} (v0 v1 v2 v3 v4 v5 v6 v7 : Value) (h : W.heap[b]? = some verZ) : ((((((((W.setCell ⟨b, 0, none⟩ v0).setCell ⟨b, 1, none⟩ v1).setCell ⟨b, 2, none⟩ v2).setCell ⟨b, 3, none⟩ v3).setCell ⟨b, 4, none⟩ v4).setCell ⟨b, 5, none⟩ v5).setCell ⟨b, 6, none⟩ v6).setCell ⟨b, 7, none⟩ v7).heap[b]? = some (.cells #[v0, v1, v2, v3, v4, v5, v6, v7] 46 (0, 0)) := by
  unfold verZ at h
  have h0 := Go.Rd.heap_setCell_same (o := 0) h v0
  have h1 := Go.Rd.heap_setCell_same (o := 1) h0 v1
  have h2 := Go.Rd.heap_setCell_same (o := 2) h1 v2
  have h3 := Go.Rd.heap_setCell_same (o := 3) h2 v3
  have h4 := Go.Rd.heap_setCell_same (o := 4) h3 v4
  have h5 := Go.Rd.heap_setCell_same (o := 5) h4 v5
  have h6 := Go.Rd.heap_setCell_same (o := 6) h5 v6
  have h7 := Go.Rd.heap_setCell_same (o := 7) h6 v7
  rw [h7]
  exact congrArg (fun c => some (Obj.cells c 46 (0, 0))) (by kernel_rfl)
theorem below8 {B : Nat} {a W : World} {b : Nat} (v0 v1 v2 v3 v4 v5 v6 v7 : Value) (h : Below B a W) (hb : B ≤ b) : Below B a ((((((((W.setCell ⟨b, 0, none⟩ v0).setCell ⟨b, 1, none⟩ v1).setCell ⟨b, 2, none⟩ v2).setCell ⟨b, 3, none⟩ v3).setCell ⟨b, 4, none⟩ v4).setCell ⟨b, 5, none⟩ v5).setCell ⟨b, 6, none⟩ v6).setCell ⟨b, 7, none⟩ v7) :=
  by
  have h0 := h.setCell (p := ⟨b, 0, none⟩) hb v0
  have h1 := h0.setCell (p := ⟨b, 1, none⟩) hb v1
  have h2 := h1.setCell (p := ⟨b, 2, none⟩) hb v2
  have h3 := h2.setCell (p := ⟨b, 3, none⟩) hb v3
  have h4 := h3.setCell (p := ⟨b, 4, none⟩) hb v4
  have h5 := h4.setCell (p := ⟨b, 5, none⟩) hb v5
  have h6 := h5.setCell (p := ⟨b, 6, none⟩) hb v6
  have h7 := h6.setCell (p := ⟨b, 7, none⟩) hb v7
  exact h7
/-- What is told lies at a block. -/
def TellsAt (rt sl : ByteArray) (nb : Nat) (w9 : World) (p e : Value) (wx : World) : Prop :=
  ∃ b, p = .pointer (some ⟨b, 0, none⟩) ∧ e = .int .i64 0 ∧ wx.heap[b]? = some (.cells #[.string rt, .string sl, .string ⟨#[115, 104, 97, 50, 53, 54]⟩, .int .u32 4096, .int .u32 4096, .int .u64 (nb : Int), .int .u32 1, .int .i64 (nb : Int)] 46 (0, 0)) ∧ Below w9.heap.size w9 wx
def TrueP (w : World) (e : Ending) (w' : World) : Prop := e = .returned (.bool true) ∧ Below w.heap.size w w'
set_option maxRecDepth 100000 in
set_option maxHeartbeats 8000000 in
theorem vb_walk (W : Nat → Int) (hW : ∀ i, i < 4 → InU64 (W i)) (Au : Option Addr) (nu cu : Nat) (us : List Int) (A : Option Addr) (n c : Nat) (l : List Int) (w : World) (hU : BytesIn w Au nu cu us) (hnu : nu ≤ 100) (hB : BytesIn w A n c l) (hl : Whole l) :
    Calls Tryd.prog 6 #[wordV W, .slice Au nu cu, .slice A n c] w (TrueP w) := by
  have hlen := hB.len
  subst hlen
  obtain ⟨n, hn⟩ : ∃ n, l.length = n := ⟨_, rfl⟩
  have hnb : n ≤ 1228800 := by rw [← hn]; exact hl.max
  have hpos : 0 < n := by have := hl.pos; omega
  obtain ⟨W0, hW0⟩ : ∃ W0, w.alloc (.cells #[.int .u64 (W 0), .int .u64 (W 1), .int .u64 (W 2), .int .u64 (W 3)] 38) = W0 := ⟨_, rfl⟩
  have hb0 : Below w.heap.size w W0 := by rw [← hW0]; exact (Below.refl _ _).alloc (Nat.le_refl _) _
  have hbx : W0.heap[w.heap.size]? = some (.cells (DigCells W) 38 (0, 0)) := by rw [← hW0]; exact alloc_new w _
  have HX := Lib.hid (fun wx (h : Below W0.heap.size W0 wx) => dig_cells hbx h)
  have hbu := fun wx (h : Below W0.heap.size W0 wx) => (hU.below hb0).below h
  have hbd := fun wx (h : Below W0.heap.size W0 wx) => (hB.below hb0).below h
  obtain ⟨T, hT⟩ : ∃ T, mtree (digest W) l = T := ⟨_, rfl⟩
  obtain ⟨tl, htl⟩ : ∃ tl, T.length = tl := ⟨_, rfl⟩
  have htlb := mtree_length (digest_is W) hl.mod hl.pos hl.max
  rw [hT, htl] at htlb
  obtain ⟨D, hD⟩ : ∃ D, deviceB (digest W) (pad16 us) l = D := ⟨_, rfl⟩
  obtain ⟨dl, hdl⟩ : ∃ dl, D.length = dl := ⟨_, rfl⟩
  have hdlb : dl ≤ 10000000 := by
    rw [← hdl, ← hD]
    unfold deviceB
    rw [List.length_append, List.length_append, superB_length (pad16_length us), List.length_replicate, hT, htl]
    omega
  obtain ⟨R, hR⟩ : ∃ R, digest W (z32 ++ T.take 4096) = R := ⟨_, rfl⟩
  have hRl : R.length = 32 := by rw [← hR]; exact (digest_is W).len _
  have hC := fun (W1 : World) (A1 : Option Addr) (c1 : Nat) (A2 : Option Addr) (c2 : Nat) (h1 : BytesIn W1 A1 nu c1 us) (h2 : BytesIn W1 A2 l.length c2 l) => deviced_any W hW A1 nu c1 us A2 l.length c2 l W1 h1 hnu h2 hl
  have hTr := fun (W1 : World) (A2 : Option Addr) (c2 : Nat) (h2 : BytesIn W1 A2 l.length c2 l) => tree_any W hW A2 l.length c2 l W1 h2 hl
  have hRo := fun (W1 : World) (A2 : Option Addr) (c2 : Nat) (h2 : BytesIn W1 A2 tl c2 T) => rootd_any W hW A2 tl c2 T W1 h2 ⟨htlb.1, by omega⟩
  have hRe := fun (W1 : World) (A2 : Option Addr) (c2 : Nat) (h2 : BytesIn W1 A2 dl c2 D) => back_read W hW us l hl hU.fits A2 dl c2 (by rw [hD]; exact hdl) W1 (by rw [hD]; exact h2)
  rw [hT] at hTr hRe
  rw [hD] at hC
  rw [hR] at hRo hRe
  unfold OkPost at hC hTr hRo
  have hfa := fun A' c' wx => fair_any A' n c' true (decide_eq_true (by omega)) wx
  have hwh := fun A' c' wx => whole_any A' n c' true hpos (beq_iff_eq.2 (by have := hl.mod; omega)) wx
  rw [hn] at hC hTr hRe hbd ⊢
  have HBU := Lib.hid hbu
  have HBD := Lib.hid hbd
  have HNS := Lib.hid (show nu ≤ 10000000 ∧ n ≤ 10000000 ∧ tl ≤ 10000000 ∧ dl ≤ 10000000 by omega)
  have HC := Lib.hid hC
  have HTR := Lib.hid hTr
  have HRO := Lib.hid hRo
  obtain ⟨rt, hrt⟩ : ∃ rt, hexS R = rt := ⟨_, rfl⟩
  obtain ⟨sl, hsl⟩ : ∃ sl, hexS z32 = sl := ⟨_, rfl⟩
  have hal : strOfNums algV = ⟨#[115, 104, 97, 50, 53, 54]⟩ := by kernel_rfl
  obtain ⟨nb, hnbk⟩ : ∃ nb, n / 4096 = nb := ⟨_, rfl⟩
  unfold VerPost verL at hRe
  rw [hrt, hsl, hal, hnbk] at hRe
  have HRE := Lib.hid hRe
  have HRT := Lib.hid hrt
  have HSL := Lib.hid hsl
  have HNB := Lib.hid hnbk
  have HFA := Lib.hid hfa
  have HWH := Lib.hid hwh
  have HTL := Lib.hid htl
  have HDL := Lib.hid hdl
  have HRL := Lib.hid hRl
  have hg1 : decide ((2147483647 : Int) < (nu : Int)) = false := decide_eq_false (by omega)
  have hg2 : decide ((2147483647 : Int) < (n : Int)) = false := decide_eq_false (by omega)
  have hg3 : decide ((100 : Int) < (nu : Int)) = false := decide_eq_false (by omega)
  clear hrt hsl hal hnbk hbu hbd hC hTr hRo hRe hfa hwh htl hdl hRl hT hD hR hU hB hl hn hbx hW
  unfold wordV DigCells at *
  go_enter Tryd.func6, Tryd.ntmps6
  go_wp2_with (first
    | (go_at_call 17; refine (HWH.out A c _).mono ?_; rintro e w2 ⟨rfl, h2⟩; subst h2)
    | (go_at_call 16; refine (HFA.out A c _).mono ?_; rintro e w2 ⟨rfl, h2⟩; subst h2))
  obtain ⟨x0, x1, x2, x3⟩ := HX.out w2 (Below.refl _ _)
  have hBd : Below w2.heap.size w2 w2.drew := (Below.refl _ _).drew
  go_region_held3 (fun w' => w'.cell? ⟨w.heap.size, 0, none⟩ = some (.int .u64 (W 0)) ∧ w'.cell? ⟨w.heap.size, 1, none⟩ = some (.int .u64 (W 1)) ∧ w'.cell? ⟨w.heap.size, 2, none⟩ = some (.int .u64 (W 2)) ∧ w'.cell? ⟨w.heap.size, 3, none⟩ = some (.int .u64 (W 3))) (first | go_keep | (go_split_ands; refine ⟨?_, ?_, ?_, ?_⟩ <;> assumption)) (first
    | (go_at_call 18; refine (HC.out w4 A1 c1 A2 c2 (hq1.below hB4') hq2).mono ?_; rintro e w5 ⟨v5, rfl, hR5, hB5'⟩; have hB5 := hB4.trans (hB5'.mono hB4.size); obtain ⟨y0, y1, y2, y3⟩ := HX.out w5 hB5)
    | (go_at_call 19; refine (dup_any A n c l w3 (HBD.out w3 hB3) HNS.out.2.1).mono ?_; rintro e w4 ⟨A2, c2, rfl, hq2, hB4'⟩; have hB4 := hB3.trans (hB4'.mono hB3.size); obtain ⟨y0, y1, y2, y3⟩ := HX.out w4 hB4)
    | (go_at_call 19; refine (dup_any Au nu cu us w2.drew (HBU.out _ hBd) HNS.out.1).mono ?_; rintro e w3 ⟨A1, c1, rfl, hq1, hB3'⟩; have hB3 := hBd.trans (hB3'.mono hBd.size); obtain ⟨y0, y1, y2, y3⟩ := HX.out w3 hB3))
  obtain ⟨A5, c5, e5, hby5⟩ := hR5.bytes
  subst e5
  rw [HDL.out] at hby5 ⊢
  have HBY5 := Lib.hid hby5
  clear hby5 hR5 hq1 hq2 hB3 hB3' hB4 hB4' hB5' hBd y0 y1 y2 y3 x0 x1 x2 x3
  go_wp2_with fail
  obtain ⟨x0, x1, x2, x3⟩ := HX.out w5 hB5
  have hB5d : Below w5.heap.size w5 w5.drew := (Below.refl _ _).drew
  have hB5e := hB5.drew
  go_region_held3 (fun w' => w'.cell? ⟨w.heap.size, 0, none⟩ = some (.int .u64 (W 0)) ∧ w'.cell? ⟨w.heap.size, 1, none⟩ = some (.int .u64 (W 1)) ∧ w'.cell? ⟨w.heap.size, 2, none⟩ = some (.int .u64 (W 2)) ∧ w'.cell? ⟨w.heap.size, 3, none⟩ = some (.int .u64 (W 3))) (first | go_keep | (go_split_ands; refine ⟨?_, ?_, ?_, ?_⟩ <;> assumption)) (first
    | (go_at_call 20; refine (HTR.out w6 A6 c6 hq6).mono ?_; rintro e w7 ⟨v7, rfl, hR7, hB7'⟩; have hB57 := hB56.trans (hB7'.mono hB56.size); have hB7 := hB5.trans (hB57.mono hB5.size); obtain ⟨y0, y1, y2, y3⟩ := HX.out w7 hB7)
    | (go_at_call 19; refine (dup_any A n c l w5.drew (HBD.out _ hB5e) HNS.out.2.1).mono ?_; rintro e w6 ⟨A6, c6, rfl, hq6, hB6'⟩; have hB56 := hB5d.trans (hB6'.mono hB5d.size); have hB6 := hB5.trans (hB56.mono hB5.size); obtain ⟨y0, y1, y2, y3⟩ := HX.out w6 hB6))
  obtain ⟨A7, c7, e7, hby7⟩ := hR7.bytes
  subst e7
  rw [HTL.out] at hby7 ⊢
  have HBY7 := Lib.hid hby7
  clear hby7 hR7 hq6 hB6 hB6' hB7' hB56 hB5d hB5e y0 y1 y2 y3 x0 x1 x2 x3
  go_wp2_with fail
  obtain ⟨x0, x1, x2, x3⟩ := HX.out w7 hB7
  have hB7d : Below w7.heap.size w7 w7.drew := (Below.refl _ _).drew
  go_region_held3 (fun w' => w'.cell? ⟨w.heap.size, 0, none⟩ = some (.int .u64 (W 0)) ∧ w'.cell? ⟨w.heap.size, 1, none⟩ = some (.int .u64 (W 1)) ∧ w'.cell? ⟨w.heap.size, 2, none⟩ = some (.int .u64 (W 2)) ∧ w'.cell? ⟨w.heap.size, 3, none⟩ = some (.int .u64 (W 3))) (first | go_keep | (go_split_ands; refine ⟨?_, ?_, ?_, ?_⟩ <;> assumption)) (first
    | (go_at_call 21; refine (HRO.out w8 A8 c8 hq8).mono ?_; rintro e w9 ⟨v9, rfl, hR9, hB9'⟩; have hB79 := hB78.trans (hB9'.mono hB78.size); have hB9 := hB7.trans (hB79.mono hB7.size); obtain ⟨y0, y1, y2, y3⟩ := HX.out w9 hB9)
    | (go_at_call 19; refine (dup_any A7 tl c7 T w7.drew (HBY7.out.below hB7d) HNS.out.2.2.1).mono ?_; rintro e w8 ⟨A8, c8, rfl, hq8, hB8'⟩; have hB78 := hB7d.trans (hB8'.mono hB7d.size); have hB8 := hB7.trans (hB78.mono hB7.size); obtain ⟨y0, y1, y2, y3⟩ := HX.out w8 hB8))
  obtain ⟨A9, c9, e9, hby9⟩ := hR9.bytes
  subst e9
  rw [HRL.out] at hby9 ⊢
  have HBY9 := Lib.hid hby9
  have hB59 := hB57.trans (hB79.mono hB57.size)
  clear hby9 hR9 hq8 hB8 hB8' hB9' hB78 hB7d y0 y1 y2 y3 x0 x1 x2 x3
  go_wp2_with fail
  obtain ⟨x0, x1, x2, x3⟩ := HX.out w9 hB9
  have hB9d : Below w9.heap.size w9 w9.drew := (Below.refl _ _).drew
  have hB59d := hB59.drew
  go_cut [13, 14] (fun p e wx => TellsAt rt sl nb w9 p e wx)
  case first =>
    have hsz : w.heap.size < w9.heap.size := cell_lt x0
    have hne9 : w.heap.size ≠ w9.heap.size := Nat.ne_of_lt hsz
    clear HTR HRO HFA HWH HTL HDL HRL HRT HSL HNB HBU HBD HBY7 HBY9 hB57 hB79 hB7 hB5 hg1 hg2 hg3 HC hnu hnb hpos hb0
    have HS : Hid (∀ wx, Below w9.heap.size w9 wx → wx.cell? ⟨w.heap.size, 0, none⟩ = some (.int .u64 (W 0)) ∧ wx.cell? ⟨w.heap.size, 1, none⟩ = some (.int .u64 (W 1)) ∧ wx.cell? ⟨w.heap.size, 2, none⟩ = some (.int .u64 (W 2)) ∧ wx.cell? ⟨w.heap.size, 3, none⟩ = some (.int .u64 (W 3))) := Lib.hid (fun wx h => HX.out wx (hB9.trans (h.mono hB9.size)))
    have HBYD : Hid (∀ wx, Below w9.heap.size w9 wx → BytesIn wx A5 dl c5 D) := Lib.hid (fun wx h => HBY5.out.below (hB59.trans (h.mono hB59.size)))
    clear HX HBY5 hB9 hB59 hB59d
    refine wp_region_held_drew (S := (fun w' => w'.cell? ⟨w.heap.size, 0, none⟩ = some (.int .u64 (W 0)) ∧ w'.cell? ⟨w.heap.size, 1, none⟩ = some (.int .u64 (W 1)) ∧ w'.cell? ⟨w.heap.size, 2, none⟩ = some (.int .u64 (W 2)) ∧ w'.cell? ⟨w.heap.size, 3, none⟩ = some (.int .u64 (W 3)))) (by kernel_rfl) ⟨x0, x1, x2, x3⟩ (fun hHeld => ?_)
    clear x0 x1 x2 x3
    generalize w9.drew = V0 at hB9d hHeld ⊢
    refine wpAnyH_take (i := 0) (v := ?_) rfl (by kernel_rfl) (by kernel_rfl) (by kernel_rfl) (fun _ _ _ h => h) (Or.inl ⟨by rfl, ?_⟩) (by assumption) ?_
    rotate_left
    · (intro w hSw; (try dsimp only at hSw); go_split_ands; go_simp) <;> with_reducible rfl
    (try simp only [Act.put, List.setIfInBounds_toArray, List.set_cons_zero, List.set_cons_succ, List.getElem_toArray, List.getElem_cons_succ, List.getElem_cons_zero])
    refine wpAnyH_take (i := 1) (v := ?_) rfl (by kernel_rfl) (by kernel_rfl) (by kernel_rfl) (fun _ _ _ h => h) (Or.inl ⟨by rfl, ?_⟩) (by assumption) ?_
    rotate_left
    · (intro w hSw; (try dsimp only at hSw); go_split_ands; go_simp) <;> with_reducible rfl
    (try simp only [Act.put, List.setIfInBounds_toArray, List.set_cons_zero, List.set_cons_succ, List.getElem_toArray, List.getElem_cons_succ, List.getElem_cons_zero])
    refine wpAnyH_ready (rs := [2, 7]) (by kernel_rfl) (by simp) ?_
    refine (AllReadyH.cons rfl (fun K hK => ?_) (AllReadyH.cons rfl (fun K hK => ?_) AllReadyH.nil))
    · go_simp; go_at_call 19; refine (dup_any A5 dl c5 D V0 (HBYD.out _ hB9d) HNS.out.2.2.2).mono ?_; rintro e Xd ⟨Aa, ca, rfl, hqa, hBa'⟩; have hbd := hB9d.trans (hBa'.mono hB9d.size)
      clear hBa'
      refine hK.out _ _ (HS.out _ hbd) (fun hHeld => ?_)
      clear hK K
      (try simp only [Act.put, List.setIfInBounds_toArray, List.set_cons_zero, List.set_cons_succ, List.getElem_toArray, List.getElem_cons_succ, List.getElem_cons_zero])
      refine wpAnyH_ready (rs := [3, 7]) (by kernel_rfl) (by simp) ?_
      refine (AllReadyH.cons rfl (fun K hK => ?_) (AllReadyH.cons rfl (fun K hK => ?_) AllReadyH.nil))
      · go_simp; go_at_call 22; refine (HRE.out Xd Aa ca hqa).mono ?_; rintro e Xr ⟨rfl, hBb'⟩; have hbr := hbd.trans (hBb'.mono hbd.size)
        clear hBb'
        refine hK.out _ _ (HS.out _ hbr) (fun hHeld => ?_)
        clear hK K
        (try simp only [Act.put, List.setIfInBounds_toArray, List.set_cons_zero, List.set_cons_succ, List.getElem_toArray, List.getElem_cons_succ, List.getElem_cons_zero])
        refine wpAnyH_take (i := 4) (v := ?_) rfl (by kernel_rfl) (by kernel_rfl) (by kernel_rfl) (fun _ _ _ h => h) (Or.inl ⟨by rfl, ?_⟩) (by assumption) ?_
        rotate_left
        · (intro w hSw; (try dsimp only at hSw); go_split_ands; go_simp) <;> with_reducible rfl
        (try simp only [Act.put, List.setIfInBounds_toArray, List.set_cons_zero, List.set_cons_succ, List.getElem_toArray, List.getElem_cons_succ, List.getElem_cons_zero])
        refine wpAnyH_take (i := 5) (v := ?_) rfl (by kernel_rfl) (by kernel_rfl) (by kernel_rfl) (fun _ _ _ h => h) (Or.inl ⟨by rfl, ?_⟩) (by assumption) ?_
        rotate_left
        · (intro w hSw; (try dsimp only at hSw); go_split_ands; go_simp) <;> with_reducible rfl
        (try simp only [Act.put, List.setIfInBounds_toArray, List.set_cons_zero, List.set_cons_succ, List.getElem_toArray, List.getElem_cons_succ, List.getElem_cons_zero])
        refine wpAnyH_take (i := 6) (v := ?_) rfl (by kernel_rfl) (by kernel_rfl) (by kernel_rfl) (fun _ _ _ h => h) (Or.inl ⟨by rfl, ?_⟩) (by assumption) ?_
        rotate_left
        · (intro w hSw; (try dsimp only at hSw); go_split_ands; go_simp) <;> with_reducible rfl
        (try simp only [Act.put, List.setIfInBounds_toArray, List.set_cons_zero, List.set_cons_succ, List.getElem_toArray, List.getElem_cons_succ, List.getElem_cons_zero])
        refine wpAnyH_ready (rs := [7]) (by kernel_rfl) (by simp) ?_
        refine (AllReadyH.cons rfl (fun K hK => ?_) AllReadyH.nil)
        go_simp
        have hba := hbr.alloc hbr.size verZ
        have hz := alloc_new Xr verZ
        have hza := hbr.size
        unfold verZ at hba hz
        refine hK.out _ _ (HS.out _ hba) (fun hHeld => ?_)
        clear hK K
        (try simp only [Act.put, List.setIfInBounds_toArray, List.set_cons_zero, List.set_cons_succ, List.getElem_toArray, List.getElem_cons_succ, List.getElem_cons_zero])
        generalize Xr.alloc (.cells #[.string ⟨#[]⟩, .string ⟨#[]⟩, .string ⟨#[]⟩, .int .u32 0, .int .u32 0, .int .u64 0, .int .u32 0, .int .i64 0] 46) = Xa at hba hz hHeld ⊢
        generalize Xr.heap.size = bz at hz hza ⊢
        have f0 := free_of hz 0
        have r0 := (cell_of hz 0).trans rfl
        have f1 := free_of hz 1
        have r1 := (cell_of hz 1).trans rfl
        have f2 := free_of hz 2
        have r2 := (cell_of hz 2).trans rfl
        have f3 := free_of hz 3
        have r3 := (cell_of hz 3).trans rfl
        have f4 := free_of hz 4
        have r4 := (cell_of hz 4).trans rfl
        have f5 := free_of hz 5
        have r5 := (cell_of hz 5).trans rfl
        have f6 := free_of hz 6
        have r6 := (cell_of hz 6).trans rfl
        have f7 := free_of hz 7
        have r7 := (cell_of hz 7).trans rfl
        refine wpAnyH_ready (rs := [8]) (by kernel_rfl) (by simp) ?_
        refine AllReadyH.cons rfl (fun K hK => ?_) AllReadyH.nil
        go_simp
        have hb8 := below8 (.string rt) (.string sl) (.string ⟨#[115, 104, 97, 50, 53, 54]⟩) (.int .u32 4096) (.int .u32 4096) (.int .u64 (nb : Int)) (.int .u32 1) (.int .i64 (nb : Int)) hba hza
        have hz8 := set8 (.string rt) (.string sl) (.string ⟨#[115, 104, 97, 50, 53, 54]⟩) (.int .u32 4096) (.int .u32 4096) (.int .u64 (nb : Int)) (.int .u32 1) (.int .i64 (nb : Int)) hz
        refine hK.out _ _ (HS.out _ hb8) (fun hHeld => ?_)
        clear hK K
        (try simp only [Act.put, List.setIfInBounds_toArray, List.set_cons_zero, List.set_cons_succ, List.getElem_toArray, List.getElem_cons_succ, List.getElem_cons_zero])
        refine wpAnyH_take (i := 9) (v := ?_) rfl (by kernel_rfl) (by kernel_rfl) (by kernel_rfl) (fun _ _ _ h => h) (Or.inl ⟨by rfl, ?_⟩) (by assumption) ?_
        rotate_left
        · (intro w hSw; (try dsimp only at hSw); go_split_ands; go_simp) <;> with_reducible rfl
        (try simp only [Act.put, List.setIfInBounds_toArray, List.set_cons_zero, List.set_cons_succ, List.getElem_toArray, List.getElem_cons_succ, List.getElem_cons_zero])
        refine wpAnyH_done (by kernel_rfl) ?_ _
        clear f0 f1 f2 f3 f4 f5 f6 f7 r0 r1 r2 r3 r4 r5 r6 r7 hHeld
        go_wp2_with fail
        go_meet
        exact ⟨_, rfl, rfl, hz8, hb8⟩
      · go_simp
        have hba := hbd.alloc hbd.size verZ
        have hz := alloc_new Xd verZ
        have hza := hbd.size
        replace hqa := hqa.below ((Below.refl Xd.heap.size Xd).alloc (Nat.le_refl _) verZ)
        unfold verZ at hba hz hqa
        refine hK.out _ _ (HS.out _ hba) (fun hHeld => ?_)
        clear hK K
        (try simp only [Act.put, List.setIfInBounds_toArray, List.set_cons_zero, List.set_cons_succ, List.getElem_toArray, List.getElem_cons_succ, List.getElem_cons_zero])
        generalize Xd.alloc (.cells #[.string ⟨#[]⟩, .string ⟨#[]⟩, .string ⟨#[]⟩, .int .u32 0, .int .u32 0, .int .u64 0, .int .u32 0, .int .i64 0] 46) = Xa at hba hz hHeld hqa ⊢
        generalize Xd.heap.size = bz at hz hza ⊢
        refine wpAnyH_ready (rs := [3]) (by kernel_rfl) (by simp) ?_
        refine (AllReadyH.cons rfl (fun K hK => ?_) AllReadyH.nil)
        go_simp; go_at_call 22; refine (HRE.out Xa Aa ca hqa).mono ?_; rintro e Xr ⟨rfl, hBb'⟩; have hbr := hba.trans (hBb'.mono hba.size); have hz := (hBb'.block _ (lt_of_heap hz)).trans hz
        clear hBb'
        refine hK.out _ _ (HS.out _ hbr) (fun hHeld => ?_)
        clear hK K
        (try simp only [Act.put, List.setIfInBounds_toArray, List.set_cons_zero, List.set_cons_succ, List.getElem_toArray, List.getElem_cons_succ, List.getElem_cons_zero])
        refine wpAnyH_take (i := 4) (v := ?_) rfl (by kernel_rfl) (by kernel_rfl) (by kernel_rfl) (fun _ _ _ h => h) (Or.inl ⟨by rfl, ?_⟩) (by assumption) ?_
        rotate_left
        · (intro w hSw; (try dsimp only at hSw); go_split_ands; go_simp) <;> with_reducible rfl
        (try simp only [Act.put, List.setIfInBounds_toArray, List.set_cons_zero, List.set_cons_succ, List.getElem_toArray, List.getElem_cons_succ, List.getElem_cons_zero])
        refine wpAnyH_take (i := 5) (v := ?_) rfl (by kernel_rfl) (by kernel_rfl) (by kernel_rfl) (fun _ _ _ h => h) (Or.inl ⟨by rfl, ?_⟩) (by assumption) ?_
        rotate_left
        · (intro w hSw; (try dsimp only at hSw); go_split_ands; go_simp) <;> with_reducible rfl
        (try simp only [Act.put, List.setIfInBounds_toArray, List.set_cons_zero, List.set_cons_succ, List.getElem_toArray, List.getElem_cons_succ, List.getElem_cons_zero])
        refine wpAnyH_take (i := 6) (v := ?_) rfl (by kernel_rfl) (by kernel_rfl) (by kernel_rfl) (fun _ _ _ h => h) (Or.inl ⟨by rfl, ?_⟩) (by assumption) ?_
        rotate_left
        · (intro w hSw; (try dsimp only at hSw); go_split_ands; go_simp) <;> with_reducible rfl
        (try simp only [Act.put, List.setIfInBounds_toArray, List.set_cons_zero, List.set_cons_succ, List.getElem_toArray, List.getElem_cons_succ, List.getElem_cons_zero])
        have f0 := free_of hz 0
        have r0 := (cell_of hz 0).trans rfl
        have f1 := free_of hz 1
        have r1 := (cell_of hz 1).trans rfl
        have f2 := free_of hz 2
        have r2 := (cell_of hz 2).trans rfl
        have f3 := free_of hz 3
        have r3 := (cell_of hz 3).trans rfl
        have f4 := free_of hz 4
        have r4 := (cell_of hz 4).trans rfl
        have f5 := free_of hz 5
        have r5 := (cell_of hz 5).trans rfl
        have f6 := free_of hz 6
        have r6 := (cell_of hz 6).trans rfl
        have f7 := free_of hz 7
        have r7 := (cell_of hz 7).trans rfl
        refine wpAnyH_ready (rs := [8]) (by kernel_rfl) (by simp) ?_
        refine AllReadyH.cons rfl (fun K hK => ?_) AllReadyH.nil
        go_simp
        have hb8 := below8 (.string rt) (.string sl) (.string ⟨#[115, 104, 97, 50, 53, 54]⟩) (.int .u32 4096) (.int .u32 4096) (.int .u64 (nb : Int)) (.int .u32 1) (.int .i64 (nb : Int)) hbr hza
        have hz8 := set8 (.string rt) (.string sl) (.string ⟨#[115, 104, 97, 50, 53, 54]⟩) (.int .u32 4096) (.int .u32 4096) (.int .u64 (nb : Int)) (.int .u32 1) (.int .i64 (nb : Int)) hz
        refine hK.out _ _ (HS.out _ hb8) (fun hHeld => ?_)
        clear hK K
        (try simp only [Act.put, List.setIfInBounds_toArray, List.set_cons_zero, List.set_cons_succ, List.getElem_toArray, List.getElem_cons_succ, List.getElem_cons_zero])
        refine wpAnyH_take (i := 9) (v := ?_) rfl (by kernel_rfl) (by kernel_rfl) (by kernel_rfl) (fun _ _ _ h => h) (Or.inl ⟨by rfl, ?_⟩) (by assumption) ?_
        rotate_left
        · (intro w hSw; (try dsimp only at hSw); go_split_ands; go_simp) <;> with_reducible rfl
        (try simp only [Act.put, List.setIfInBounds_toArray, List.set_cons_zero, List.set_cons_succ, List.getElem_toArray, List.getElem_cons_succ, List.getElem_cons_zero])
        refine wpAnyH_done (by kernel_rfl) ?_ _
        clear f0 f1 f2 f3 f4 f5 f6 f7 r0 r1 r2 r3 r4 r5 r6 r7 hHeld
        go_wp2_with fail
        go_meet
        exact ⟨_, rfl, rfl, hz8, hb8⟩
    · go_simp
      have hba := hB9d.alloc hB9d.size verZ
      have hz := alloc_new V0 verZ
      have hza := hB9d.size
      unfold verZ at hba hz
      refine hK.out _ _ (HS.out _ hba) (fun hHeld => ?_)
      clear hK K
      (try simp only [Act.put, List.setIfInBounds_toArray, List.set_cons_zero, List.set_cons_succ, List.getElem_toArray, List.getElem_cons_succ, List.getElem_cons_zero])
      generalize V0.alloc (.cells #[.string ⟨#[]⟩, .string ⟨#[]⟩, .string ⟨#[]⟩, .int .u32 0, .int .u32 0, .int .u64 0, .int .u32 0, .int .i64 0] 46) = Xa at hba hz hHeld ⊢
      generalize V0.heap.size = bz at hz hza ⊢
      refine wpAnyH_ready (rs := [2]) (by kernel_rfl) (by simp) ?_
      refine (AllReadyH.cons rfl (fun K hK => ?_) AllReadyH.nil)
      go_simp; go_at_call 19; refine (dup_any A5 dl c5 D Xa (HBYD.out _ hba) HNS.out.2.2.2).mono ?_; rintro e Xd ⟨Aa, ca, rfl, hqa, hBa'⟩; have hbd := hba.trans (hBa'.mono hba.size); have hz := (hBa'.block _ (lt_of_heap hz)).trans hz
      clear hBa'
      refine hK.out _ _ (HS.out _ hbd) (fun hHeld => ?_)
      clear hK K
      (try simp only [Act.put, List.setIfInBounds_toArray, List.set_cons_zero, List.set_cons_succ, List.getElem_toArray, List.getElem_cons_succ, List.getElem_cons_zero])
      refine wpAnyH_ready (rs := [3]) (by kernel_rfl) (by simp) ?_
      refine (AllReadyH.cons rfl (fun K hK => ?_) AllReadyH.nil)
      go_simp; go_at_call 22; refine (HRE.out Xd Aa ca hqa).mono ?_; rintro e Xr ⟨rfl, hBb'⟩; have hbr := hbd.trans (hBb'.mono hbd.size); have hz := (hBb'.block _ (lt_of_heap hz)).trans hz
      clear hBb'
      refine hK.out _ _ (HS.out _ hbr) (fun hHeld => ?_)
      clear hK K
      (try simp only [Act.put, List.setIfInBounds_toArray, List.set_cons_zero, List.set_cons_succ, List.getElem_toArray, List.getElem_cons_succ, List.getElem_cons_zero])
      refine wpAnyH_take (i := 4) (v := ?_) rfl (by kernel_rfl) (by kernel_rfl) (by kernel_rfl) (fun _ _ _ h => h) (Or.inl ⟨by rfl, ?_⟩) (by assumption) ?_
      rotate_left
      · (intro w hSw; (try dsimp only at hSw); go_split_ands; go_simp) <;> with_reducible rfl
      (try simp only [Act.put, List.setIfInBounds_toArray, List.set_cons_zero, List.set_cons_succ, List.getElem_toArray, List.getElem_cons_succ, List.getElem_cons_zero])
      refine wpAnyH_take (i := 5) (v := ?_) rfl (by kernel_rfl) (by kernel_rfl) (by kernel_rfl) (fun _ _ _ h => h) (Or.inl ⟨by rfl, ?_⟩) (by assumption) ?_
      rotate_left
      · (intro w hSw; (try dsimp only at hSw); go_split_ands; go_simp) <;> with_reducible rfl
      (try simp only [Act.put, List.setIfInBounds_toArray, List.set_cons_zero, List.set_cons_succ, List.getElem_toArray, List.getElem_cons_succ, List.getElem_cons_zero])
      refine wpAnyH_take (i := 6) (v := ?_) rfl (by kernel_rfl) (by kernel_rfl) (by kernel_rfl) (fun _ _ _ h => h) (Or.inl ⟨by rfl, ?_⟩) (by assumption) ?_
      rotate_left
      · (intro w hSw; (try dsimp only at hSw); go_split_ands; go_simp) <;> with_reducible rfl
      (try simp only [Act.put, List.setIfInBounds_toArray, List.set_cons_zero, List.set_cons_succ, List.getElem_toArray, List.getElem_cons_succ, List.getElem_cons_zero])
      have f0 := free_of hz 0
      have r0 := (cell_of hz 0).trans rfl
      have f1 := free_of hz 1
      have r1 := (cell_of hz 1).trans rfl
      have f2 := free_of hz 2
      have r2 := (cell_of hz 2).trans rfl
      have f3 := free_of hz 3
      have r3 := (cell_of hz 3).trans rfl
      have f4 := free_of hz 4
      have r4 := (cell_of hz 4).trans rfl
      have f5 := free_of hz 5
      have r5 := (cell_of hz 5).trans rfl
      have f6 := free_of hz 6
      have r6 := (cell_of hz 6).trans rfl
      have f7 := free_of hz 7
      have r7 := (cell_of hz 7).trans rfl
      refine wpAnyH_ready (rs := [8]) (by kernel_rfl) (by simp) ?_
      refine AllReadyH.cons rfl (fun K hK => ?_) AllReadyH.nil
      go_simp
      have hb8 := below8 (.string rt) (.string sl) (.string ⟨#[115, 104, 97, 50, 53, 54]⟩) (.int .u32 4096) (.int .u32 4096) (.int .u64 (nb : Int)) (.int .u32 1) (.int .i64 (nb : Int)) hbr hza
      have hz8 := set8 (.string rt) (.string sl) (.string ⟨#[115, 104, 97, 50, 53, 54]⟩) (.int .u32 4096) (.int .u32 4096) (.int .u64 (nb : Int)) (.int .u32 1) (.int .i64 (nb : Int)) hz
      refine hK.out _ _ (HS.out _ hb8) (fun hHeld => ?_)
      clear hK K
      (try simp only [Act.put, List.setIfInBounds_toArray, List.set_cons_zero, List.set_cons_succ, List.getElem_toArray, List.getElem_cons_succ, List.getElem_cons_zero])
      refine wpAnyH_take (i := 9) (v := ?_) rfl (by kernel_rfl) (by kernel_rfl) (by kernel_rfl) (fun _ _ _ h => h) (Or.inl ⟨by rfl, ?_⟩) (by assumption) ?_
      rotate_left
      · (intro w hSw; (try dsimp only at hSw); go_split_ands; go_simp) <;> with_reducible rfl
      (try simp only [Act.put, List.setIfInBounds_toArray, List.set_cons_zero, List.set_cons_succ, List.getElem_toArray, List.getElem_cons_succ, List.getElem_cons_zero])
      refine wpAnyH_done (by kernel_rfl) ?_ _
      clear f0 f1 f2 f3 f4 f5 f6 f7 r0 r1 r2 r3 r4 r5 r6 r7 hHeld
      go_wp2_with fail
      go_meet
      exact ⟨_, rfl, rfl, hz8, hb8⟩
  case rest =>
    obtain ⟨b, rfl, rfl, hIx, hBx⟩ := hcut
    have hBx9 := hB9.trans (hBx.mono hB9.size)
    have HIX := Lib.hid hIx
    have hq1 : ((nb : Int) == (n : Int) / 4096) = true := beq_iff_eq.2 (by have := HNB.out; omega)
    have hn4 : (n : Int) / 4096 = (nb : Int) := by have := HNB.out; omega
    have hw1 : IntKind.u64.wrap (nb : Int) = (nb : Int) := by
      have e : IntKind.u64.wrap (nb : Int) = (nb : Int) % 18446744073709551616 := by simp [IntKind.wrap, IntKind.bits, IntKind.signed]
      have := HNB.out
      rw [e]
      omega
    have hw2 : IntKind.i64.wrap (nb : Int) = (nb : Int) := IntWalk.i64_in _ (by have := HNB.out; omega)
    have hw3 : wrap64 (nb : Int) = (nb : Int) := IntWalk.wrap64_in _ (by have := HNB.out; omega)
    have hs1 : (rt.toList == rt.toList) = true := by simp
    have hs2 : (sl.toList == sl.toList) = true := by simp
    have HHX := Lib.hid (fun (W1 : World) (h : Below w9.heap.size w9 W1) => (hexadecimal_any A9 32 c9 R W1 (HBY9.out.below h) (by decide)))
    have HHZ := Lib.hid (fun (W1 : World) (A' : Option Addr) (c' : Nat) (h : BytesIn W1 A' 32 c' z32) => (hexadecimal_any A' 32 c' z32 W1 h (by decide)))
    rw [HRT.out] at HHX
    rw [HSL.out] at HHZ
    obtain ⟨Z, hZ, hmk⟩ := zeros_run 32 (by decide)
    have hmk' : ∀ W : World, (Instr.makeSlice 22 (.int .i64 32) (.int .i64 32)).run Tryd.prog W = .ok (.slice (some ⟨W.heap.size, 0, none⟩) 32 32) (W.alloc (.cells Z 5)) := hmk
    have hS : ∀ wx, Below wc.heap.size wc wx → wx.cell? ⟨b, 0, none⟩ = some (.string rt) ∧ wx.cell? ⟨b, 1, none⟩ = some (.string sl) ∧ wx.cell? ⟨b, 2, none⟩ = some (.string ⟨#[115, 104, 97, 50, 53, 54]⟩) ∧ wx.cell? ⟨b, 3, none⟩ = some (.int .u32 4096) ∧ wx.cell? ⟨b, 4, none⟩ = some (.int .u32 4096) ∧ wx.cell? ⟨b, 5, none⟩ = some (.int .u64 (nb : Int)) ∧ wx.cell? ⟨b, 6, none⟩ = some (.int .u32 1) ∧ wx.cell? ⟨b, 7, none⟩ = some (.int .i64 (nb : Int)) := fun wx h => by
      have h2 := (h.block b (lt_of_heap HIX.out)).trans HIX.out
      exact ⟨cell_of h2 0, cell_of h2 1, cell_of h2 2, cell_of h2 3, cell_of h2 4, cell_of h2 5, cell_of h2 6, cell_of h2 7⟩
    have HS := Lib.hid hS
    have hbw := hb0.trans (hBx9.mono hb0.size)
    clear hIx hmk HX HBU HBD HDL HTL HRL HC HTR HRO HRE HFA HWH HNS HBY5 HBY7 HBY9 HRT HSL HNB hg1 hg2 hg3 hpos hnb hnu hS hb0 hBx9 hB9 hB9d hB59 hB59d hB57 hB79 hB7 hB5 x0 x1 x2 x3
    go_upto_region 9 with fail
    have hBd : Below wc.heap.size wc wc.drew := (Below.refl _ _).drew
    refine wp_region_held_drew (S := (fun w' => w'.cell? ⟨b, 0, none⟩ = some (.string rt) ∧ w'.cell? ⟨b, 1, none⟩ = some (.string sl) ∧ w'.cell? ⟨b, 2, none⟩ = some (.string ⟨#[115, 104, 97, 50, 53, 54]⟩) ∧ w'.cell? ⟨b, 3, none⟩ = some (.int .u32 4096) ∧ w'.cell? ⟨b, 4, none⟩ = some (.int .u32 4096) ∧ w'.cell? ⟨b, 5, none⟩ = some (.int .u64 (nb : Int)) ∧ w'.cell? ⟨b, 6, none⟩ = some (.int .u32 1) ∧ w'.cell? ⟨b, 7, none⟩ = some (.int .i64 (nb : Int)))) (by kernel_rfl) (HS.out _ hBd) (fun hHeld => ?_)
    have hBx2 := hBx.trans (hBd.mono hBx.size)
    have hbw2 := hbw.trans (hBd.mono hbw.size)
    generalize wc.drew = V0 at hBd hBx2 hbw2 hHeld ⊢
    refine wpAnyH_take (i := 0) (v := ?_) rfl (by kernel_rfl) (by kernel_rfl) (by kernel_rfl) (fun _ _ _ h => h) (Or.inl ⟨by rfl, ?_⟩) (by assumption) ?_
    rotate_left
    · (intro w hSw; (try dsimp only at hSw); go_split_ands; go_simp) <;> with_reducible rfl
    (try simp only [Act.put, List.setIfInBounds_toArray, List.set_cons_zero, List.set_cons_succ, List.getElem_toArray, List.getElem_cons_succ, List.getElem_cons_zero])
    refine wpAnyH_take (i := 1) (v := ?_) rfl (by kernel_rfl) (by kernel_rfl) (by kernel_rfl) (fun _ _ _ h => h) (Or.inl ⟨by rfl, ?_⟩) (by assumption) ?_
    rotate_left
    · (intro w hSw; (try dsimp only at hSw); go_split_ands; go_simp) <;> with_reducible rfl
    (try simp only [Act.put, List.setIfInBounds_toArray, List.set_cons_zero, List.set_cons_succ, List.getElem_toArray, List.getElem_cons_succ, List.getElem_cons_zero])
    refine wpAnyH_take (i := 2) (v := ?_) rfl (by kernel_rfl) (by kernel_rfl) (by kernel_rfl) (fun _ _ _ h => h) (Or.inl ⟨by rfl, ?_⟩) (by assumption) ?_
    rotate_left
    · (intro w hSw; (try dsimp only at hSw); go_split_ands; go_simp) <;> with_reducible rfl
    (try simp only [Act.put, List.setIfInBounds_toArray, List.set_cons_zero, List.set_cons_succ, List.getElem_toArray, List.getElem_cons_succ, List.getElem_cons_zero])
    refine wpAnyH_take (i := 3) (v := ?_) rfl (by kernel_rfl) (by kernel_rfl) (by kernel_rfl) (fun _ _ _ h => h) (Or.inl ⟨by rfl, ?_⟩) (by assumption) ?_
    rotate_left
    · (intro w hSw; (try dsimp only at hSw); go_split_ands; go_simp) <;> with_reducible rfl
    (try simp only [Act.put, List.setIfInBounds_toArray, List.set_cons_zero, List.set_cons_succ, List.getElem_toArray, List.getElem_cons_succ, List.getElem_cons_zero])
    refine wpAnyH_take (i := 4) (v := ?_) rfl (by kernel_rfl) (by kernel_rfl) (by kernel_rfl) (fun _ _ _ h => h) (Or.inl ⟨by rfl, ?_⟩) (by assumption) ?_
    rotate_left
    · (intro w hSw; (try dsimp only at hSw); go_split_ands; go_simp) <;> with_reducible rfl
    (try simp only [Act.put, List.setIfInBounds_toArray, List.set_cons_zero, List.set_cons_succ, List.getElem_toArray, List.getElem_cons_succ, List.getElem_cons_zero])
    refine wpAnyH_take (i := 5) (v := ?_) rfl (by kernel_rfl) (by kernel_rfl) (by kernel_rfl) (fun _ _ _ h => h) (Or.inl ⟨by rfl, ?_⟩) (by assumption) ?_
    rotate_left
    · (intro w hSw; (try dsimp only at hSw); go_split_ands; go_simp) <;> with_reducible rfl
    (try simp only [Act.put, List.setIfInBounds_toArray, List.set_cons_zero, List.set_cons_succ, List.getElem_toArray, List.getElem_cons_succ, List.getElem_cons_zero])
    refine wpAnyH_take (i := 6) (v := ?_) rfl (by kernel_rfl) (by kernel_rfl) (by kernel_rfl) (fun _ _ _ h => h) (Or.inl ⟨by rfl, ?_⟩) (by assumption) ?_
    rotate_left
    · (intro w hSw; (try dsimp only at hSw); go_split_ands; go_simp) <;> with_reducible rfl
    (try simp only [Act.put, List.setIfInBounds_toArray, List.set_cons_zero, List.set_cons_succ, List.getElem_toArray, List.getElem_cons_succ, List.getElem_cons_zero])
    refine wpAnyH_take (i := 7) (v := ?_) rfl (by kernel_rfl) (by kernel_rfl) (by kernel_rfl) (fun _ _ _ h => h) (Or.inl ⟨by rfl, ?_⟩) (by assumption) ?_
    rotate_left
    · (intro w hSw; (try dsimp only at hSw); go_split_ands; go_simp) <;> with_reducible rfl
    (try simp only [Act.put, List.setIfInBounds_toArray, List.set_cons_zero, List.set_cons_succ, List.getElem_toArray, List.getElem_cons_succ, List.getElem_cons_zero])
    refine wpAnyH_take (i := 8) (v := ?_) rfl (by kernel_rfl) (by kernel_rfl) (by kernel_rfl) (fun _ _ _ h => h) (Or.inl ⟨by rfl, ?_⟩) (by assumption) ?_
    rotate_left
    · (intro w hSw; (try dsimp only at hSw); go_split_ands; go_simp) <;> with_reducible rfl
    (try simp only [Act.put, List.setIfInBounds_toArray, List.set_cons_zero, List.set_cons_succ, List.getElem_toArray, List.getElem_cons_succ, List.getElem_cons_zero])
    refine wpAnyH_take (i := 9) (v := ?_) rfl (by kernel_rfl) (by kernel_rfl) (by kernel_rfl) (fun _ _ _ h => h) (Or.inl ⟨by rfl, ?_⟩) (by assumption) ?_
    rotate_left
    · (intro w hSw; (try dsimp only at hSw); go_split_ands; go_simp) <;> with_reducible rfl
    (try simp only [Act.put, List.setIfInBounds_toArray, List.set_cons_zero, List.set_cons_succ, List.getElem_toArray, List.getElem_cons_succ, List.getElem_cons_zero])
    refine wpAnyH_take (i := 10) (v := ?_) rfl (by kernel_rfl) (by kernel_rfl) (by kernel_rfl) (fun _ _ _ h => h) (Or.inl ⟨by rfl, ?_⟩) (by assumption) ?_
    rotate_left
    · (intro w hSw; (try dsimp only at hSw); go_split_ands; go_simp) <;> with_reducible rfl
    (try simp only [Act.put, List.setIfInBounds_toArray, List.set_cons_zero, List.set_cons_succ, List.getElem_toArray, List.getElem_cons_succ, List.getElem_cons_zero])
    refine wpAnyH_take (i := 11) (v := ?_) rfl (by kernel_rfl) (by kernel_rfl) (by kernel_rfl) (fun _ _ _ h => h) (Or.inl ⟨by rfl, ?_⟩) (by assumption) ?_
    rotate_left
    · (intro w hSw; (try dsimp only at hSw); go_split_ands; go_simp) <;> with_reducible rfl
    (try simp only [Act.put, List.setIfInBounds_toArray, List.set_cons_zero, List.set_cons_succ, List.getElem_toArray, List.getElem_cons_succ, List.getElem_cons_zero])
    refine wpAnyH_take (i := 12) (v := ?_) rfl (by kernel_rfl) (by kernel_rfl) (by kernel_rfl) (fun _ _ _ h => h) (Or.inl ⟨by rfl, ?_⟩) (by assumption) ?_
    rotate_left
    · (intro w hSw; (try dsimp only at hSw); go_split_ands; go_simp) <;> with_reducible rfl
    (try simp only [Act.put, List.setIfInBounds_toArray, List.set_cons_zero, List.set_cons_succ, List.getElem_toArray, List.getElem_cons_succ, List.getElem_cons_zero])
    refine wpAnyH_take (i := 13) (v := ?_) rfl (by kernel_rfl) (by kernel_rfl) (by kernel_rfl) (fun _ _ _ h => h) (Or.inl ⟨by rfl, ?_⟩) (by assumption) ?_
    rotate_left
    · (intro w hSw; (try dsimp only at hSw); go_split_ands; go_simp) <;> with_reducible rfl
    (try simp only [Act.put, List.setIfInBounds_toArray, List.set_cons_zero, List.set_cons_succ, List.getElem_toArray, List.getElem_cons_succ, List.getElem_cons_zero])
    refine wpAnyH_take (i := 14) (v := ?_) rfl (by kernel_rfl) (by kernel_rfl) (by kernel_rfl) (fun _ _ _ h => h) (Or.inl ⟨by rfl, ?_⟩) (by assumption) ?_
    rotate_left
    · (intro w hSw; (try dsimp only at hSw); go_split_ands; go_simp) <;> with_reducible rfl
    (try simp only [Act.put, List.setIfInBounds_toArray, List.set_cons_zero, List.set_cons_succ, List.getElem_toArray, List.getElem_cons_succ, List.getElem_cons_zero])
    refine wpAnyH_ready (rs := [15]) (by kernel_rfl) (by simp) ?_
    refine AllReadyH.cons rfl (fun K hK => ?_) AllReadyH.nil
    go_simp; go_at_call 23; refine (HHX.out V0 hBx2).mono ?_; rintro e V1 ⟨rfl, hB1'⟩; have hB1 := hBd.trans (hB1'.mono hBd.size); have hbw3 := hbw2.trans (hB1'.mono hbw2.size); clear hB1'
    refine hK.out _ _ (HS.out _ hB1) (fun hHeld => ?_)
    clear hK K
    (try simp only [Act.put, List.setIfInBounds_toArray, List.set_cons_zero, List.set_cons_succ, List.getElem_toArray, List.getElem_cons_succ, List.getElem_cons_zero])
    refine wpAnyH_take (i := 16) (v := ?_) rfl (by kernel_rfl) (by kernel_rfl) (by kernel_rfl) (fun _ _ _ h => h) (Or.inl ⟨by rfl, ?_⟩) (by assumption) ?_
    rotate_left
    · (intro w hSw; (try dsimp only at hSw); go_split_ands; go_simp) <;> with_reducible rfl
    (try simp only [Act.put, List.setIfInBounds_toArray, List.set_cons_zero, List.set_cons_succ, List.getElem_toArray, List.getElem_cons_succ, List.getElem_cons_zero])
    refine wpAnyH_take (i := 17) (v := ?_) rfl (by kernel_rfl) (by kernel_rfl) (by kernel_rfl) (fun _ _ _ h => h) (Or.inl ⟨by rfl, ?_⟩) (by assumption) ?_
    rotate_left
    · (intro w hSw; (try dsimp only at hSw); go_split_ands; go_simp) <;> with_reducible rfl
    (try simp only [Act.put, List.setIfInBounds_toArray, List.set_cons_zero, List.set_cons_succ, List.getElem_toArray, List.getElem_cons_succ, List.getElem_cons_zero])
    refine wpAnyH_take (i := 18) (v := ?_) rfl (by kernel_rfl) (by kernel_rfl) (by kernel_rfl) (fun _ _ _ h => h) (Or.inl ⟨by rfl, ?_⟩) (by assumption) ?_
    rotate_left
    · (intro w hSw; (try dsimp only at hSw); go_split_ands; go_simp) <;> with_reducible rfl
    (try simp only [Act.put, List.setIfInBounds_toArray, List.set_cons_zero, List.set_cons_succ, List.getElem_toArray, List.getElem_cons_succ, List.getElem_cons_zero])
    refine wpAnyH_take (i := 19) (v := ?_) rfl (by kernel_rfl) (by kernel_rfl) (by kernel_rfl) (fun _ _ _ h => h) (Or.inl ⟨by rfl, ?_⟩) (by assumption) ?_
    rotate_left
    · (intro w hSw; (try dsimp only at hSw); go_split_ands; go_simp) <;> with_reducible rfl
    (try simp only [Act.put, List.setIfInBounds_toArray, List.set_cons_zero, List.set_cons_succ, List.getElem_toArray, List.getElem_cons_succ, List.getElem_cons_zero])
    refine wpAnyH_take (i := 20) (v := ?_) rfl (by kernel_rfl) (by kernel_rfl) (by kernel_rfl) (fun _ _ _ h => h) (Or.inl ⟨by rfl, ?_⟩) (by assumption) ?_
    rotate_left
    · (intro w hSw; (try dsimp only at hSw); go_split_ands; go_simp) <;> with_reducible rfl
    (try simp only [Act.put, List.setIfInBounds_toArray, List.set_cons_zero, List.set_cons_succ, List.getElem_toArray, List.getElem_cons_succ, List.getElem_cons_zero])
    refine wpAnyH_ready (rs := [21]) (by kernel_rfl) (by simp) ?_
    refine AllReadyH.cons rfl (fun K hK => ?_) AllReadyH.nil
    go_simp
    have hBm := hB1.alloc hB1.size (.cells Z 5)
    have hbz := bytes_zeros V1 32 (by decide) hZ
    have hbw4 := hbw3.alloc hbw3.size (.cells Z 5)
    have hsz := hbw3.size
    refine hK.out _ _ (HS.out _ hBm) (fun hHeld => ?_)
    clear hK K
    (try simp only [Act.put, List.setIfInBounds_toArray, List.set_cons_zero, List.set_cons_succ, List.getElem_toArray, List.getElem_cons_succ, List.getElem_cons_zero])
    refine wpAnyH_ready (rs := [22]) (by kernel_rfl) (by simp) ?_
    refine AllReadyH.cons rfl (fun K hK => ?_) AllReadyH.nil
    generalize hV2 : V1.alloc (.cells Z 5) = V2 at hBm hbz hbw4 hHeld ⊢
    clear hV2
    go_simp; go_at_call 23; refine (HHZ.out V2 _ 32 hbz).mono ?_; rintro e V3 ⟨rfl, hB3'⟩; have hB3 := hBm.trans (hB3'.mono hBm.size); have hbw5 := hbw4.trans (hB3'.mono hbw4.size); clear hB3'
    refine hK.out _ _ (HS.out _ hB3) (fun hHeld => ?_)
    clear hK K
    (try simp only [Act.put, List.setIfInBounds_toArray, List.set_cons_zero, List.set_cons_succ, List.getElem_toArray, List.getElem_cons_succ, List.getElem_cons_zero])
    refine wpAnyH_take (i := 23) (v := ?_) rfl (by kernel_rfl) (by kernel_rfl) (by kernel_rfl) (fun _ _ _ h => h) (Or.inl ⟨by rfl, ?_⟩) (by assumption) ?_
    rotate_left
    · (intro w hSw; (try dsimp only at hSw); go_split_ands; go_simp) <;> with_reducible rfl
    (try simp only [Act.put, List.setIfInBounds_toArray, List.set_cons_zero, List.set_cons_succ, List.getElem_toArray, List.getElem_cons_succ, List.getElem_cons_zero])
    refine wpAnyH_take (i := 24) (v := ?_) rfl (by kernel_rfl) (by kernel_rfl) (by kernel_rfl) (fun _ _ _ h => h) (Or.inl ⟨by rfl, ?_⟩) (by assumption) ?_
    rotate_left
    · (intro w hSw; (try dsimp only at hSw); go_split_ands; go_simp) <;> with_reducible rfl
    (try simp only [Act.put, List.setIfInBounds_toArray, List.set_cons_zero, List.set_cons_succ, List.getElem_toArray, List.getElem_cons_succ, List.getElem_cons_zero])
    refine wpAnyH_take (i := 25) (v := ?_) rfl (by kernel_rfl) (by kernel_rfl) (by kernel_rfl) (fun _ _ _ h => h) (Or.inl ⟨by rfl, ?_⟩) (by assumption) ?_
    rotate_left
    · (intro w hSw; (try dsimp only at hSw); go_split_ands; go_simp) <;> with_reducible rfl
    (try simp only [Act.put, List.setIfInBounds_toArray, List.set_cons_zero, List.set_cons_succ, List.getElem_toArray, List.getElem_cons_succ, List.getElem_cons_zero])
    refine wpAnyH_take (i := 26) (v := ?_) rfl (by kernel_rfl) (by kernel_rfl) (by kernel_rfl) (fun _ _ _ h => h) (Or.inl ⟨by rfl, ?_⟩) (by assumption) ?_
    rotate_left
    · (intro w hSw; (try dsimp only at hSw); go_split_ands; go_simp) <;> with_reducible rfl
    (try simp only [Act.put, List.setIfInBounds_toArray, List.set_cons_zero, List.set_cons_succ, List.getElem_toArray, List.getElem_cons_succ, List.getElem_cons_zero])
    refine wpAnyH_take (i := 27) (v := ?_) rfl (by kernel_rfl) (by kernel_rfl) (by kernel_rfl) (fun _ _ _ h => h) (Or.inl ⟨by rfl, ?_⟩) (by assumption) ?_
    rotate_left
    · (intro w hSw; (try dsimp only at hSw); go_split_ands; go_simp) <;> with_reducible rfl
    (try simp only [Act.put, List.setIfInBounds_toArray, List.set_cons_zero, List.set_cons_succ, List.getElem_toArray, List.getElem_cons_succ, List.getElem_cons_zero])
    refine wpAnyH_take (i := 28) (v := ?_) rfl (by kernel_rfl) (by kernel_rfl) (by kernel_rfl) (fun _ _ _ h => h) (Or.inl ⟨by rfl, ?_⟩) (by assumption) ?_
    rotate_left
    · (intro w hSw; (try dsimp only at hSw); go_split_ands; go_simp) <;> with_reducible rfl
    (try simp only [Act.put, List.setIfInBounds_toArray, List.set_cons_zero, List.set_cons_succ, List.getElem_toArray, List.getElem_cons_succ, List.getElem_cons_zero])
    refine wpAnyH_take (i := 29) (v := ?_) rfl (by kernel_rfl) (by kernel_rfl) (by kernel_rfl) (fun _ _ _ h => h) (Or.inl ⟨by rfl, ?_⟩) (by assumption) ?_
    rotate_left
    · (intro w hSw; (try dsimp only at hSw); go_split_ands; go_simp) <;> with_reducible rfl
    (try simp only [Act.put, List.setIfInBounds_toArray, List.set_cons_zero, List.set_cons_succ, List.getElem_toArray, List.getElem_cons_succ, List.getElem_cons_zero])
    refine wpAnyH_take (i := 30) (v := ?_) rfl (by kernel_rfl) (by kernel_rfl) (by kernel_rfl) (fun _ _ _ h => h) (Or.inl ⟨by rfl, ?_⟩) (by assumption) ?_
    rotate_left
    · (intro w hSw; (try dsimp only at hSw); go_split_ands; go_simp) <;> with_reducible rfl
    (try simp only [Act.put, List.setIfInBounds_toArray, List.set_cons_zero, List.set_cons_succ, List.getElem_toArray, List.getElem_cons_succ, List.getElem_cons_zero])
    refine wpAnyH_take (i := 31) (v := ?_) rfl (by kernel_rfl) (by kernel_rfl) (by kernel_rfl) (fun _ _ _ h => h) (Or.inl ⟨by rfl, ?_⟩) (by assumption) ?_
    rotate_left
    · (intro w hSw; (try dsimp only at hSw); go_split_ands; go_simp) <;> with_reducible rfl
    (try simp only [Act.put, List.setIfInBounds_toArray, List.set_cons_zero, List.set_cons_succ, List.getElem_toArray, List.getElem_cons_succ, List.getElem_cons_zero])
    refine wpAnyH_take (i := 32) (v := ?_) rfl (by kernel_rfl) (by kernel_rfl) (by kernel_rfl) (fun _ _ _ h => h) (Or.inl ⟨by rfl, ?_⟩) (by assumption) ?_
    rotate_left
    · (intro w hSw; (try dsimp only at hSw); go_split_ands; go_simp) <;> with_reducible rfl
    (try simp only [Act.put, List.setIfInBounds_toArray, List.set_cons_zero, List.set_cons_succ, List.getElem_toArray, List.getElem_cons_succ, List.getElem_cons_zero])
    refine wpAnyH_take (i := 33) (v := ?_) rfl (by kernel_rfl) (by kernel_rfl) (by kernel_rfl) (fun _ _ _ h => h) (Or.inl ⟨by rfl, ?_⟩) (by assumption) ?_
    rotate_left
    · (intro w hSw; (try dsimp only at hSw); go_split_ands; go_simp) <;> with_reducible rfl
    (try simp only [Act.put, List.setIfInBounds_toArray, List.set_cons_zero, List.set_cons_succ, List.getElem_toArray, List.getElem_cons_succ, List.getElem_cons_zero])
    refine wpAnyH_take (i := 34) (v := ?_) rfl (by kernel_rfl) (by kernel_rfl) (by kernel_rfl) (fun _ _ _ h => h) (Or.inl ⟨by rfl, ?_⟩) (by assumption) ?_
    rotate_left
    · (intro w hSw; (try dsimp only at hSw); go_split_ands; go_simp) <;> with_reducible rfl
    (try simp only [Act.put, List.setIfInBounds_toArray, List.set_cons_zero, List.set_cons_succ, List.getElem_toArray, List.getElem_cons_succ, List.getElem_cons_zero])
    refine wpAnyH_take (i := 35) (v := ?_) rfl (by kernel_rfl) (by kernel_rfl) (by kernel_rfl) (fun _ _ _ h => h) (Or.inl ⟨by rfl, ?_⟩) (by assumption) ?_
    rotate_left
    · (intro w hSw; (try dsimp only at hSw); go_split_ands; go_simp) <;> with_reducible rfl
    (try simp only [Act.put, List.setIfInBounds_toArray, List.set_cons_zero, List.set_cons_succ, List.getElem_toArray, List.getElem_cons_succ, List.getElem_cons_zero])
    refine wpAnyH_take (i := 36) (v := ?_) rfl (by kernel_rfl) (by kernel_rfl) (by kernel_rfl) (fun _ _ _ h => h) (Or.inl ⟨by rfl, ?_⟩) (by assumption) ?_
    rotate_left
    · (intro w hSw; (try dsimp only at hSw); go_split_ands; go_simp) <;> with_reducible rfl
    (try simp only [Act.put, List.setIfInBounds_toArray, List.set_cons_zero, List.set_cons_succ, List.getElem_toArray, List.getElem_cons_succ, List.getElem_cons_zero])
    refine wpAnyH_take (i := 37) (v := ?_) rfl (by kernel_rfl) (by kernel_rfl) (by kernel_rfl) (fun _ _ _ h => h) (Or.inl ⟨by rfl, ?_⟩) (by assumption) ?_
    rotate_left
    · (intro w hSw; (try dsimp only at hSw); go_split_ands; go_simp) <;> with_reducible rfl
    (try simp only [Act.put, List.setIfInBounds_toArray, List.set_cons_zero, List.set_cons_succ, List.getElem_toArray, List.getElem_cons_succ, List.getElem_cons_zero])
    refine wpAnyH_take (i := 38) (v := ?_) rfl (by kernel_rfl) (by kernel_rfl) (by kernel_rfl) (fun _ _ _ h => h) (Or.inl ⟨by rfl, ?_⟩) (by assumption) ?_
    rotate_left
    · (intro w hSw; (try dsimp only at hSw); go_split_ands; go_simp) <;> with_reducible rfl
    (try simp only [Act.put, List.setIfInBounds_toArray, List.set_cons_zero, List.set_cons_succ, List.getElem_toArray, List.getElem_cons_succ, List.getElem_cons_zero])
    refine wpAnyH_take (i := 39) (v := ?_) rfl (by kernel_rfl) (by kernel_rfl) (by kernel_rfl) (fun _ _ _ h => h) (Or.inl ⟨by rfl, ?_⟩) (by assumption) ?_
    rotate_left
    · (intro w hSw; (try dsimp only at hSw); go_split_ands; go_simp) <;> with_reducible rfl
    (try simp only [Act.put, List.setIfInBounds_toArray, List.set_cons_zero, List.set_cons_succ, List.getElem_toArray, List.getElem_cons_succ, List.getElem_cons_zero])
    refine wpAnyH_take (i := 40) (v := ?_) rfl (by kernel_rfl) (by kernel_rfl) (by kernel_rfl) (fun _ _ _ h => h) (Or.inl ⟨by rfl, ?_⟩) (by assumption) ?_
    rotate_left
    · (intro w hSw; (try dsimp only at hSw); go_split_ands; go_simp) <;> with_reducible rfl
    (try simp only [Act.put, List.setIfInBounds_toArray, List.set_cons_zero, List.set_cons_succ, List.getElem_toArray, List.getElem_cons_succ, List.getElem_cons_zero])
    refine wpAnyH_take (i := 41) (v := ?_) rfl (by kernel_rfl) (by kernel_rfl) (by kernel_rfl) (fun _ _ _ h => h) (Or.inl ⟨by rfl, ?_⟩) (by assumption) ?_
    rotate_left
    · (intro w hSw; (try dsimp only at hSw); go_split_ands; go_simp) <;> with_reducible rfl
    (try simp only [Act.put, List.setIfInBounds_toArray, List.set_cons_zero, List.set_cons_succ, List.getElem_toArray, List.getElem_cons_succ, List.getElem_cons_zero])
    refine wpAnyH_take (i := 42) (v := ?_) rfl (by kernel_rfl) (by kernel_rfl) (by kernel_rfl) (fun _ _ _ h => h) (Or.inl ⟨by rfl, ?_⟩) (by assumption) ?_
    rotate_left
    · (intro w hSw; (try dsimp only at hSw); go_split_ands; go_simp) <;> with_reducible rfl
    (try simp only [Act.put, List.setIfInBounds_toArray, List.set_cons_zero, List.set_cons_succ, List.getElem_toArray, List.getElem_cons_succ, List.getElem_cons_zero])
    refine wpAnyH_take (i := 43) (v := ?_) rfl (by kernel_rfl) (by kernel_rfl) (by kernel_rfl) (fun _ _ _ h => h) (Or.inl ⟨by rfl, ?_⟩) (by assumption) ?_
    rotate_left
    · (intro w hSw; (try dsimp only at hSw); go_split_ands; go_simp) <;> with_reducible rfl
    (try simp only [Act.put, List.setIfInBounds_toArray, List.set_cons_zero, List.set_cons_succ, List.getElem_toArray, List.getElem_cons_succ, List.getElem_cons_zero])
    refine wpAnyH_take (i := 44) (v := ?_) rfl (by kernel_rfl) (by kernel_rfl) (by kernel_rfl) (fun _ _ _ h => h) (Or.inl ⟨by rfl, ?_⟩) (by assumption) ?_
    rotate_left
    · (intro w hSw; (try dsimp only at hSw); go_split_ands; go_simp) <;> with_reducible rfl
    (try simp only [Act.put, List.setIfInBounds_toArray, List.set_cons_zero, List.set_cons_succ, List.getElem_toArray, List.getElem_cons_succ, List.getElem_cons_zero])
    refine wpAnyH_take (i := 45) (v := ?_) rfl (by kernel_rfl) (by kernel_rfl) (by kernel_rfl) (fun _ _ _ h => h) (Or.inl ⟨by rfl, ?_⟩) (by assumption) ?_
    rotate_left
    · (intro w hSw; (try dsimp only at hSw); go_split_ands; go_simp) <;> with_reducible rfl
    (try simp only [Act.put, List.setIfInBounds_toArray, List.set_cons_zero, List.set_cons_succ, List.getElem_toArray, List.getElem_cons_succ, List.getElem_cons_zero])
    refine wpAnyH_take (i := 46) (v := ?_) rfl (by kernel_rfl) (by kernel_rfl) (by kernel_rfl) (fun _ _ _ h => h) (Or.inl ⟨by rfl, ?_⟩) (by assumption) ?_
    rotate_left
    · (intro w hSw; (try dsimp only at hSw); go_split_ands; go_simp) <;> with_reducible rfl
    (try simp only [Act.put, List.setIfInBounds_toArray, List.set_cons_zero, List.set_cons_succ, List.getElem_toArray, List.getElem_cons_succ, List.getElem_cons_zero])
    refine wpAnyH_take (i := 47) (v := ?_) rfl (by kernel_rfl) (by kernel_rfl) (by kernel_rfl) (fun _ _ _ h => h) (Or.inl ⟨by rfl, ?_⟩) (by assumption) ?_
    rotate_left
    · (intro w hSw; (try dsimp only at hSw); go_split_ands; go_simp) <;> with_reducible rfl
    (try simp only [Act.put, List.setIfInBounds_toArray, List.set_cons_zero, List.set_cons_succ, List.getElem_toArray, List.getElem_cons_succ, List.getElem_cons_zero])
    refine wpAnyH_take (i := 48) (v := ?_) rfl (by kernel_rfl) (by kernel_rfl) (by kernel_rfl) (fun _ _ _ h => h) (Or.inl ⟨by rfl, ?_⟩) (by assumption) ?_
    rotate_left
    · (intro w hSw; (try dsimp only at hSw); go_split_ands; go_simp) <;> with_reducible rfl
    (try simp only [Act.put, List.setIfInBounds_toArray, List.set_cons_zero, List.set_cons_succ, List.getElem_toArray, List.getElem_cons_succ, List.getElem_cons_zero])
    refine wpAnyH_take (i := 49) (v := ?_) rfl (by kernel_rfl) (by kernel_rfl) (by kernel_rfl) (fun _ _ _ h => h) (Or.inl ⟨by rfl, ?_⟩) (by assumption) ?_
    rotate_left
    · (intro w hSw; (try dsimp only at hSw); go_split_ands; go_simp) <;> with_reducible rfl
    (try simp only [Act.put, List.setIfInBounds_toArray, List.set_cons_zero, List.set_cons_succ, List.getElem_toArray, List.getElem_cons_succ, List.getElem_cons_zero])
    refine wpAnyH_take (i := 50) (v := ?_) rfl (by kernel_rfl) (by kernel_rfl) (by kernel_rfl) (fun _ _ _ h => h) (Or.inl ⟨by rfl, ?_⟩) (by assumption) ?_
    rotate_left
    · (intro w hSw; (try dsimp only at hSw); go_split_ands; go_simp) <;> with_reducible rfl
    (try simp only [Act.put, List.setIfInBounds_toArray, List.set_cons_zero, List.set_cons_succ, List.getElem_toArray, List.getElem_cons_succ, List.getElem_cons_zero])
    refine wpAnyH_take (i := 51) (v := ?_) rfl (by kernel_rfl) (by kernel_rfl) (by kernel_rfl) (fun _ _ _ h => h) (Or.inl ⟨by rfl, ?_⟩) (by assumption) ?_
    rotate_left
    · (intro w hSw; (try dsimp only at hSw); go_split_ands; go_simp) <;> with_reducible rfl
    (try simp only [Act.put, List.setIfInBounds_toArray, List.set_cons_zero, List.set_cons_succ, List.getElem_toArray, List.getElem_cons_succ, List.getElem_cons_zero])
    refine wpAnyH_take (i := 52) (v := ?_) rfl (by kernel_rfl) (by kernel_rfl) (by kernel_rfl) (fun _ _ _ h => h) (Or.inl ⟨by rfl, ?_⟩) (by assumption) ?_
    rotate_left
    · (intro w hSw; (try dsimp only at hSw); go_split_ands; go_simp) <;> with_reducible rfl
    (try simp only [Act.put, List.setIfInBounds_toArray, List.set_cons_zero, List.set_cons_succ, List.getElem_toArray, List.getElem_cons_succ, List.getElem_cons_zero])
    refine wpAnyH_take (i := 53) (v := ?_) rfl (by kernel_rfl) (by kernel_rfl) (by kernel_rfl) (fun _ _ _ h => h) (Or.inl ⟨by rfl, ?_⟩) (by assumption) ?_
    rotate_left
    · (intro w hSw; (try dsimp only at hSw); go_split_ands; go_simp) <;> with_reducible rfl
    (try simp only [Act.put, List.setIfInBounds_toArray, List.set_cons_zero, List.set_cons_succ, List.getElem_toArray, List.getElem_cons_succ, List.getElem_cons_zero])
    refine wpAnyH_take (i := 54) (v := ?_) rfl (by kernel_rfl) (by kernel_rfl) (by kernel_rfl) (fun _ _ _ h => h) (Or.inl ⟨by rfl, ?_⟩) (by assumption) ?_
    rotate_left
    · (intro w hSw; (try dsimp only at hSw); go_split_ands; go_simp) <;> with_reducible rfl
    (try simp only [Act.put, List.setIfInBounds_toArray, List.set_cons_zero, List.set_cons_succ, List.getElem_toArray, List.getElem_cons_succ, List.getElem_cons_zero])
    refine wpAnyH_take (i := 55) (v := ?_) rfl (by kernel_rfl) (by kernel_rfl) (by kernel_rfl) (fun _ _ _ h => h) (Or.inl ⟨by rfl, ?_⟩) (by assumption) ?_
    rotate_left
    · (intro w hSw; (try dsimp only at hSw); go_split_ands; go_simp) <;> with_reducible rfl
    (try simp only [Act.put, List.setIfInBounds_toArray, List.set_cons_zero, List.set_cons_succ, List.getElem_toArray, List.getElem_cons_succ, List.getElem_cons_zero])
    refine wpAnyH_take (i := 56) (v := ?_) rfl (by kernel_rfl) (by kernel_rfl) (by kernel_rfl) (fun _ _ _ h => h) (Or.inl ⟨by rfl, ?_⟩) (by assumption) ?_
    rotate_left
    · (intro w hSw; (try dsimp only at hSw); go_split_ands; go_simp) <;> with_reducible rfl
    (try simp only [Act.put, List.setIfInBounds_toArray, List.set_cons_zero, List.set_cons_succ, List.getElem_toArray, List.getElem_cons_succ, List.getElem_cons_zero])
    refine wpAnyH_take (i := 57) (v := ?_) rfl (by kernel_rfl) (by kernel_rfl) (by kernel_rfl) (fun _ _ _ h => h) (Or.inl ⟨by rfl, ?_⟩) (by assumption) ?_
    rotate_left
    · (intro w hSw; (try dsimp only at hSw); go_split_ands; go_simp) <;> with_reducible rfl
    (try simp only [Act.put, List.setIfInBounds_toArray, List.set_cons_zero, List.set_cons_succ, List.getElem_toArray, List.getElem_cons_succ, List.getElem_cons_zero])
    refine wpAnyH_take (i := 58) (v := ?_) rfl (by kernel_rfl) (by kernel_rfl) (by kernel_rfl) (fun _ _ _ h => h) (Or.inl ⟨by rfl, ?_⟩) (by assumption) ?_
    rotate_left
    · (intro w hSw; (try dsimp only at hSw); go_split_ands; go_simp) <;> with_reducible rfl
    (try simp only [Act.put, List.setIfInBounds_toArray, List.set_cons_zero, List.set_cons_succ, List.getElem_toArray, List.getElem_cons_succ, List.getElem_cons_zero])
    refine wpAnyH_take (i := 59) (v := ?_) rfl (by kernel_rfl) (by kernel_rfl) (by kernel_rfl) (fun _ _ _ h => h) (Or.inl ⟨by rfl, ?_⟩) (by assumption) ?_
    rotate_left
    · (intro w hSw; (try dsimp only at hSw); go_split_ands; go_simp) <;> with_reducible rfl
    (try simp only [Act.put, List.setIfInBounds_toArray, List.set_cons_zero, List.set_cons_succ, List.getElem_toArray, List.getElem_cons_succ, List.getElem_cons_zero])
    refine wpAnyH_take (i := 60) (v := ?_) rfl (by kernel_rfl) (by kernel_rfl) (by kernel_rfl) (fun _ _ _ h => h) (Or.inl ⟨by rfl, ?_⟩) (by assumption) ?_
    rotate_left
    · (intro w hSw; (try dsimp only at hSw); go_split_ands; go_simp) <;> with_reducible rfl
    (try simp only [Act.put, List.setIfInBounds_toArray, List.set_cons_zero, List.set_cons_succ, List.getElem_toArray, List.getElem_cons_succ, List.getElem_cons_zero])
    refine wpAnyH_take (i := 61) (v := ?_) rfl (by kernel_rfl) (by kernel_rfl) (by kernel_rfl) (fun _ _ _ h => h) (Or.inl ⟨by rfl, ?_⟩) (by assumption) ?_
    rotate_left
    · (intro w hSw; (try dsimp only at hSw); go_split_ands; go_simp) <;> with_reducible rfl
    (try simp only [Act.put, List.setIfInBounds_toArray, List.set_cons_zero, List.set_cons_succ, List.getElem_toArray, List.getElem_cons_succ, List.getElem_cons_zero])
    refine wpAnyH_take (i := 62) (v := ?_) rfl (by kernel_rfl) (by kernel_rfl) (by kernel_rfl) (fun _ _ _ h => h) (Or.inl ⟨by rfl, ?_⟩) (by assumption) ?_
    rotate_left
    · (intro w hSw; (try dsimp only at hSw); go_split_ands; go_simp) <;> with_reducible rfl
    (try simp only [Act.put, List.setIfInBounds_toArray, List.set_cons_zero, List.set_cons_succ, List.getElem_toArray, List.getElem_cons_succ, List.getElem_cons_zero])
    refine wpAnyH_done (by kernel_rfl) ?_ _
    go_wp2_with fail
    go_ret
    exact ⟨rfl, hbw5⟩
end Go.Proofs.YtfanlhkpblemgaaDoor
