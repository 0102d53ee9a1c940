/- FnVerityBack: the tree of hashes. -/
import Derived.Test.YtfanlhkpblemgaaDoorVdWalk
import Derived.Deep.CutRange
import Derived.Deep.DeepCutAuto
namespace Go.Proofs.YtfanlhkpblemgaaDoor
open Go.RowKit Go.Rd
set_option linter.unusedVariables false
set_option linter.unusedSimpArgs false
open Go.Proofs.YtfanlhkpblemgaaDoorW.PrintWords Go.Proofs.YtfanlhkpblemgaaDoorW.PrintLast Go.Proofs.YtfanlhkpblemgaaDoorW.PrintMore

theorem none23 (W : World) : (Instr.makeSlice 23 (.int .i64 0) (.int .i64 0)).run Tryd.prog W = .ok (.slice (some ⟨W.heap.size, 0, none⟩) 0 0) (W.alloc (.cells #[] 22)) := by
  obtain ⟨i0, hi, hz, hsz, hby⟩ := infoR
  obtain ⟨Z, hZ, hs, hr⟩ := make_run (P := Tryd.prog) (t := 23) (e := 22) und23 hi hz 0 (by omega) (by decide)
  have : Z = #[] := Array.eq_empty_of_size_eq_zero (by omega)
  subst this
  exact hr W
theorem none22 (W : World) : (Instr.makeSlice 22 (.int .i64 0) (.int .i64 0)).run Tryd.prog W = .ok (.slice (some ⟨W.heap.size, 0, none⟩) 0 0) (W.alloc (.cells #[] 5)) := by
  obtain ⟨Z, hZ, hr⟩ := zeros_run 0 (by decide)
  obtain rfl := hZ.out
  exact hr W
theorem none_row (W : World) (e : TypeId) (base : Nat) (hb : base ≤ W.heap.size) : (W.alloc (.cells #[] e)).ownsRow base e 1 (.slice (some ⟨W.heap.size, 0, none⟩) 0 0) 0 [] :=
  ⟨rfl, .inr ⟨W.heap.size, 0, #[], rfl, hb, alloc_new W _, Nat.le_refl _, by decide, rfl, rfl⟩⟩
/-- The loop that joins the layers. -/
def TRel (Ms : List (List Int)) (wo : World) (v i : Value) (wr : World) : Prop := ∃ j : Nat, j ≤ Ms.length ∧ i = .int .i64 ((j : Int) - 1) ∧ Row wo.heap.size wr v (joined (Ms.drop j)) ∧ Below wo.heap.size wo wr
theorem wrap_pred (m : Nat) (h : m ≤ 2) : wrap64 ((m : Int) - 1) = (m : Int) - 1 := IntWalk.wrap64_in _ (by omega)
def TreePost (H : List Int → List Int) (l : List Int) (w : World) (e : Ending) (w' : World) : Prop := ∃ v, e = .returned (.tuple #[v, .nilIface]) ∧ Row w.heap.size w' v (mtree H l) ∧ Below w.heap.size w w'
/-- The loop over the levels: the layers, what is left to be hashed. -/
def LevRel (H : List Int → List Int) (l : List Int) (w : World) (v u : Value) (wr : World) : Prop :=
  ∃ Ls cur A c, LayersIs w.heap.size wr v Ls ∧ u = .slice A cur.length c ∧ BytesIn wr A cur.length c cur ∧ Stage H l Ls cur ∧ Below w.heap.size w wr
/-- The loop over a level's blocks: what is left, the hashes so far. -/
def BlkRel (H : List Int → List Int) (cur : List Int) (wo : World) (u v : Value) (wr : World) : Prop :=
  ∃ (k : Nat) (A : Option Addr) (c : Nat), 4096 * k ≤ cur.length ∧ u = .slice A (cur.length - 4096 * k) c ∧ BytesIn wo A (cur.length - 4096 * k) c (cur.drop (4096 * k)) ∧ Row wo.heap.size wr v (hashes H k cur) ∧ Below wo.heap.size wo wr
def lenOf : Value → Nat
  | .slice _ n _ => n
  | _ => 0
def OutL (H : List Int → List Int) (l : List Int) (w : World) (v : Value) (wr : World) : Prop := ∃ Ls, LayersIs w.heap.size wr v Ls ∧ AllLev H l Ls ∧ Below w.heap.size w wr
def PadRel (H : List Int → List Int) (cur : List Int) (wo : World) (v : Value) (wr : World) : Prop := Row wo.heap.size wr v (level H cur) ∧ Below wo.heap.size wo wr
set_option maxRecDepth 100000 in
set_option maxHeartbeats 4000000 in
theorem merkle_any (A : Option Addr) (n c : Nat) (l : List Int) (b : Nat) (W : Nat → Int) (w : World) (hb : BytesIn w A n c l) (hW : WordsAt w b W) (hl : Whole l) :
    Calls Tryd.prog 37 #[.slice A n c, HashV b] w (TreePost (digest W) l w) := by
  have hH := digest_is W
  have hbl := lt_of_heap hW.blk
  have hlen := hb.len
  subst hlen
  have HB := Lib.hid hb
  have HW := Lib.hid hW
  have HL := Lib.hid hl
  have HH := Lib.hid hH
  obtain ⟨Z, hZ, hmk⟩ := zeros_run 32 (by decide)
  have hmk' : ∀ W : World, (Instr.makeSlice 22 (.int .i64 32) (.int .i64 32)).run Tryd.prog W = .ok (.slice (some ⟨W.heap.size, 0, none⟩) 32 32) (W.alloc (.cells Z 5)) := hmk
  clear hb hW hl hH hmk
  obtain ⟨H, hHe⟩ : ∃ H, digest W = H := ⟨_, rfl⟩
  have hh2 := fun A n c l A2 n2 c2 m w h1 h2 hW hn hn2 => hash2_any A n c l A2 n2 c2 m b W w h1 h2 hW hn hn2
  rw [hHe] at HH hh2 ⊢
  have HH2 := Lib.hid hh2
  clear hh2
  have HE := Lib.hid hHe
  clear hHe
  unfold HashV at *
  go_enter Tryd.func37, Tryd.ntmps37
  have n23 := none23
  have n22 := none22
  go_wp2_with fail
  go_loopw [6, 7] (fun v u wr => LevRel H l w v u wr) (fun _ u _ => (lenOf u))
  case atStart => exact ⟨[], l, A, c, layers_nil _ _ _ (none_row w 22 _ (Nat.le_refl _)), rfl, HB.out.below ((Below.refl _ _).alloc (Nat.le_refl _) _), .inl ⟨rfl, rfl⟩, (Below.refl _ _).alloc (Nat.le_refl _) _⟩
  case round =>
    obtain ⟨Ls, cur, A1, c1, hLs, rfl, hcur, hst, hBo⟩ := hrel
    obtain ⟨wo, hwo⟩ : ∃ x, x = wr := ⟨_, rfl⟩
    subst hwo
    have HLS := Lib.hid hLs
    have HCUR := Lib.hid hcur
    have HST := Lib.hid hst
    have HWC := Lib.hid (stage_whole HH.out HL.out hst)
    clear hLs hcur hst
    obtain ⟨q, hq⟩ : ∃ q, cur.length = q := ⟨_, rfl⟩
    have hqb : q ≤ 4096 * 300 := by rw [← hq]; exact HWC.out.1.max
    rw [hq]
    have HQ := Lib.hid hq
    clear hq
    have hbo : b < wo.heap.size := Nat.lt_of_lt_of_le hbl hBo.size
    have HWO := Lib.hid (HW.out.below hBo hbl)
    go_wp2_with fail
    go_loopw [7, 8] (fun u v wr => BlkRel H cur wo u v wr) (fun u _ _ => (lenOf u))
    case atStart => exact ⟨0, A1, c1, Nat.zero_le _, by rw [← HQ.out]; rfl, HCUR.out, ⟨none_row wo 5 _ (Nat.le_refl _), fun c hc => by simp [hashes] at hc⟩, (Below.refl _ _).alloc (Nat.le_refl _) _⟩
    case round =>
      obtain ⟨k, A2, c2, hk, rfl, hb2, hR2, hB2⟩ := hrel
      rw [HQ.out] at hk hb2 ⊢
      obtain ⟨d, hd⟩ : ∃ d, q - 4096 * k = d := ⟨_, rfl⟩
      rw [hd] at hb2 ⊢
      have hmod : q % 4096 = 0 := by rw [← HQ.out]; exact HWC.out.1.mod
      have hBw : Below w.heap.size w wr := hBo.trans (hB2.mono hBo.size)
      have HK := Lib.hid hk
      have HD := Lib.hid hd
      have HMOD := Lib.hid hmod
      have HB2 := Lib.hid hb2
      have HR2 := Lib.hid hR2
      clear hk hb2 hR2 hmod
      by_cases h0 : d = 0
      · subst h0
        obtain ⟨A9, c9, e9⟩ := HR2.out.slice
        obtain ⟨D, hD⟩ : ∃ D, hashes H k cur = D := ⟨_, rfl⟩
        rw [hD] at HR2 e9
        subst e9
        have hk4 : k = q / 4096 := by have := HK.out; have := HD.out; have := HMOD.out; omega
        have hdl : D.length = 32 * k := by rw [← hD]; exact hashes_length HH.out k cur
        have hkb : 1 ≤ k ∧ k ≤ 300 := by have := HWC.out.1.pos; have := HWC.out.1.max; rw [HQ.out] at *; omega
        have hlev : level H cur = padded D := by unfold level; rw [HQ.out, ← hk4, hD]
        have HLEV := Lib.hid hlev
        obtain ⟨dl, hdl2⟩ : ∃ dl, D.length = dl := ⟨_, rfl⟩
        rw [hdl2] at hdl HR2 ⊢
        have hdb : 32 ≤ dl ∧ dl ≤ 9600 := by omega
        have HDL := Lib.hid hdl2
        clear hdl hk4 hkb hlev hD hdl2
        obtain ⟨hdb1, hdb2⟩ := hdb
        go_upto_region 11 with fail
        iterate 16 go_step
        go_cut [8] (fun v wx => PadRel H cur wo v wx)
        case first =>
          by_cases hpad : dl % 4096 = 0
          · have hp : ((dl : Int) % 4096 != 0) = false := by
              have : (dl : Int) % 4096 = 0 := by omega
              simp [this]
            have HP := Lib.hid hpad
            clear hpad
            go_wp2_with fail
            go_meet
            refine ⟨?_, hB2⟩
            rw [HLEV.out]
            have h9 : padded D = D := by unfold padded; rw [if_pos (by rw [HDL.out]; exact HP.out)]; simp
            rw [h9]
            exact HR2.out
          · have hp : ((dl : Int) % 4096 != 0) = true := by
              have : (dl : Int) % 4096 ≠ 0 := by omega
              simp [this]
            obtain ⟨z, hz⟩ : ∃ z, 4096 - dl % 4096 = z := ⟨_, rfl⟩
            have hzb : z ≤ 4096 := by omega
            have hze : (4096 : Int) - (dl : Int) % 4096 = (z : Int) := by omega
            obtain ⟨Z2, hZ2, hmk2⟩ := zeros_run z (by omega)
            have HZB := Lib.hid hzb
            have HP := Lib.hid hpad
            have HZ := Lib.hid hz
            clear hpad hz hzb
            have hzz := hB2.size
            have hBz2 : Below wr.heap.size wr (wr.alloc (.cells Z2 5)) := (Below.refl _ _).alloc (Nat.le_refl _) _
            go_wp2_with (at_builtin; refine app_bytes wo.heap.size rfl (.tmp 44) (.tmp 45) rfl (.slice A9 dl c9) D rfl (HR2.out.below hBz2) (some ⟨wr.heap.size, 0, none⟩) z z (List.replicate z 0) rfl (bytes_zeros wr z (by have := HZB.out; omega) hZ2) (by have := HZB.out; have := HDL.out; omega) (Nat.le_trans hzz hBz2.size) ?_; intro v7 w7 hR7 hg7 hB7)
            go_meet
            refine ⟨?_, (hB2.alloc hzz _).trans hB7⟩
            rw [HLEV.out]
            have h9 : padded D = D ++ List.replicate z 0 := by unfold padded; rw [HDL.out, if_neg HP.out, HZ.out]
            rw [h9]
            exact hR7
        case rest =>
          obtain ⟨hRL, hBL⟩ := hcut
          clear hB2 HR2 HB2 hdb1 hdb2 HDL HLEV HK HD HMOD hd hBw
          obtain ⟨LV, hLV⟩ : ∃ LV, level H cur = LV := ⟨_, rfl⟩
          have hnx := stage_next HH.out HL.out HST.out
          have hen := stage_end HH.out HL.out HST.out
          have hle : LV.length ≤ 12288 := by
            rw [← hLV, level_length HH.out, HQ.out]
            omega
          rw [hLV] at hRL hnx hen
          rw [HQ.out] at hnx
          have hlay := hRL.lay
          obtain ⟨ll, hll⟩ : ∃ ll, LV.length = ll := ⟨_, rfl⟩
          obtain ⟨A9', c9', e9', hby9⟩ := hRL.bytes
          subst e9'
          rw [hll] at hnx hen hle hRL hlay hby9 ⊢
          have HRL := Lib.hid hRL
          have HNX := Lib.hid hnx
          have HEN := Lib.hid hen
          have HLL := Lib.hid hll
          have HLAY := Lib.hid hlay
          have HLSB := Lib.hid (HLS.out.below hBL)
          have hlsl : Ls.length ≤ 1 := HWC.out.2
          have HLSL := Lib.hid (show Ls.length ≤ 1000 by omega)
          obtain ⟨A10, c10, e10⟩ := HLS.out.slice
          subst e10
          clear hnx hen hRL hll hlay hLV hby9 hlsl
          obtain ⟨Ms, hMs⟩ : ∃ Ms, Ls ++ [LV] = Ms := ⟨_, rfl⟩
          have hml : Ms.length = Ls.length + 1 := by rw [← hMs]; simp
          have HML := Lib.hid hml
          rw [hMs] at HNX HEN
          have HMS := Lib.hid hMs
          clear hMs hml
          have hszw := Nat.le_trans hBo.size hBL.size
          by_cases hend : ll = 4096
          · subst hend
            have hal := HEN.out rfl
            have HAL := Lib.hid hal
            clear hal HEN HNX hle
            go_wp2_with (at_builtin; refine layer_app w.heap.size rfl (.tmp 47) (.tmp 49) rfl (.slice A10 Ls.length c10) Ls rfl (.slice A9' 4096 c9') LV HLSB.out HLAY.out HLSL.out (wc.alloc (.cells #[.slice A9' 4096 c9'] 22)) rfl rfl hszw ?_; rw [HMS.out]; intro v12 w12 hL12 hl12 hB12; obtain ⟨A12, c12, e12⟩ := hL12.slice; subst e12; obtain ⟨m, hm⟩ : ∃ m, Ms.length = m := ⟨_, rfl⟩; rw [hm] at hL12 ⊢; have HM := Lib.hid hm; clear hm; have HL12 := Lib.hid hL12; clear hL12 hl12)
            have hBw2 : Below w.heap.size w w12 := (hBo.trans (hBL.mono hBo.size)).trans hB12
            clear hB12 hBL HLSB HLAY HLL HRL HMS HML HWO hbo
            go_loopw [12, 13] (fun v i wr => TRel Ms w12 v i wr) (fun _ i _ => (intOf i + 1).toNat)
            case atStart => exact ⟨m, by rw [HM.out]; exact Nat.le_refl _, by have := (all_small HH.out HL.out HAL.out).1; rw [HM.out] at this; exact congrArg _ (wrap_pred m this), by rw [← HM.out, List.drop_length]; exact ⟨none_row w12 5 _ (Nat.le_refl _), fun c hc => by simp [joined] at hc⟩, (Below.refl _ _).alloc (Nat.le_refl _) _⟩
            case round =>
              obtain ⟨j, hj, rfl, hR, hB3⟩ := hrel
              cases j with
              | zero =>
                rw [show ((0 : Nat) : Int) - 1 = -1 from rfl]
                go_wp2_with fail
                go_ret2
                exact ⟨_, rfl, by rw [← all_joined HAL.out]; exact hR.lower hBw2.size, hBw2.trans (hB3.mono hBw2.size)⟩
              | succ j =>
                rw [show ((j + 1 : Nat) : Int) - 1 = (j : Int) by omega]
                have hjm : j < Ms.length := hj
                obtain ⟨g, A13, c13, rfl, hmm, hcell, hby⟩ := HL12.out.at j hjm
                have hst := joined_at Ms j hjm
                obtain ⟨hm2, hsm⟩ := all_small HH.out HL.out HAL.out
                have hsm := Lib.hid (hsm j hjm)
                obtain ⟨LJ, hLJ⟩ : ∃ LJ, Ms[j] = LJ := ⟨_, rfl⟩
                rw [hLJ] at hcell hby hst hsm
                obtain ⟨PJ, hPJ⟩ : ∃ PJ, joined (Ms.drop (j + 1)) = PJ := ⟨_, rfl⟩
                rw [hPJ] at hR hst hsm
                obtain ⟨lj, hlj⟩ : ∃ lj, LJ.length = lj := ⟨_, rfl⟩
                rw [hlj] at hcell hby hsm
                have hgl := cell_lt hcell
                have hc1 := (hB3.cell (p := ⟨g, j, none⟩) hgl).trans hcell
                have hjb : j < m := by rw [← HM.out]; exact hjm
                have hmb : m ≤ 2 := by rw [← HM.out]; exact hm2
                have HBY := Lib.hid (hby.below hB3)
                have HST3 := Lib.hid hst
                have HR := Lib.hid hR
                have hz3 := hB3.size
                obtain ⟨A14, c14, e14⟩ := hR.slice
                subst e14
                clear hcell hby hst hLJ hPJ hlj hgl hm2 hR hmm hjm hj
                go_wp2_with (at_builtin; refine app_bytes w12.heap.size rfl (.tmp 63) (.tmp 67) rfl (.slice A14 PJ.length c14) PJ rfl HR.out A13 lj c13 LJ rfl HBY.out (Nat.le_trans hsm.out (by decide)) hz3 ?_; intro v15 w15 hR15 hg15 hB15)
                exact ⟨⟨j, Nat.le_of_lt (by rw [HM.out]; exact hjb), rfl, by rw [HST3.out]; exact hR15, hB3.trans hB15⟩, by simp only [intOf]; omega⟩
          · have hnx := HNX.out hend
            have hlq := hnx.2
            have HSTN := Lib.hid hnx.1
            clear hnx HEN HNX
            go_wp2_with (at_builtin; refine layer_app w.heap.size rfl (.tmp 47) (.tmp 49) rfl (.slice A10 Ls.length c10) Ls rfl (.slice A9' ll c9') LV HLSB.out HLAY.out HLSL.out (wc.alloc (.cells #[.slice A9' ll c9'] 22)) rfl rfl hszw ?_; rw [HMS.out]; intro v12 w12 hL12 hl12 hB12)
            obtain ⟨Ax, cx, ex, hbx, _⟩ := hl12.ex
            rw [HLL.out] at ex hbx
            cases ex
            exact ⟨⟨Ms, LV, A9', c9', hL12, by rw [HLL.out], by rw [HLL.out]; exact hbx, HSTN.out, (hBo.trans (hBL.mono hBo.size)).trans hB12⟩, by simp only [lenOf]; exact hlq⟩
      · have hd4 : 4096 ≤ d := by have := HMOD.out; omega
        have hdm : d ≤ 1228800 := by omega
        obtain ⟨hs1, ht⟩ := BytesIn.taken HB2.out 4096 (by decide) hd4
        obtain ⟨A3, hs2, hr3⟩ := BytesIn.dropped HB2.out 4096 hd4
        have hs1' : ∀ W : World, (Instr.slice 22 (.slice A2 d c2) none (some (.int .i64 4096)) none).run Tryd.prog W = .ok (.slice A2 4096 c2) W := hs1
        have hs2' : ∀ W : World, (Instr.slice 22 (.slice A2 d c2) (some (.int .i64 4096)) none none).run Tryd.prog W = .ok (.slice A3 (d - 4096) (c2 - 4096)) W := hs2
        have HT := Lib.hid ht
        have HR3 := Lib.hid hr3
        clear hs1 hs2 ht hr3 h0 hd
        obtain ⟨blk, hblk⟩ : ∃ blk, (cur.drop (4096 * k)).take 4096 = blk := ⟨_, rfl⟩
        rw [hblk] at HT
        have HBLK := Lib.hid hblk
        clear hblk
        obtain ⟨hs, hhs⟩ : ∃ hs, hashes H k cur = hs := ⟨_, rfl⟩
        rw [hhs] at HR2
        have hhl : hs.length ≤ 9600 := by rw [← hhs, hashes_length HH.out]; have := HK.out; omega
        have HHL := Lib.hid hhl
        have HHS := Lib.hid hhs
        clear hhs hhl
        obtain ⟨A4, c4, e4⟩ := HR2.out.slice
        subst e4
        have hzz := hB2.size
        have hBz : Below wr.heap.size wr (wr.alloc (.cells Z 5)) := (Below.refl _ _).alloc (Nat.le_refl _) _
        have hB2z : Below wo.heap.size wo (wr.alloc (.cells Z 5)) := hB2.alloc hzz _
        go_wp2_with (first
          | (at_builtin; refine app_bytes wo.heap.size rfl (.tmp 32) (.tmp 33) rfl (.slice A4 hs.length c4) hs rfl (HR2.out.below hB5) A6 32 c6 (H (z32 ++ blk)) rfl hb6 (by have := HHL.out; omega) hz5 ?_; intro v7 w7 hR7 hg7 hB7)
          | (go_at_call 49; refine (HH2.out (some ⟨wr.heap.size, 0, none⟩) 32 32 z32 A2 4096 c2 blk (wr.alloc (.cells Z 5)) (bytes_zeros wr 32 (by decide) hZ) (HT.out.below hB2z) (HWO.out.below hB2z hbo) (by decide) (by decide)).mono ?_; rintro e w5 ⟨v5, rfl, hR5, hB5'⟩; have hB5 : Below wr.heap.size wr w5 := hBz.trans (hB5'.mono hBz.size); obtain ⟨A6, c6, e6, hb6⟩ := hR5.bytes; subst e6; rw [HH.out.len] at hb6 ⊢; have hz5 := Nat.le_trans hzz hB5.size))
        exact ⟨⟨k + 1, A3, c2 - 4096, by have := HK.out; have := HD.out; rw [HQ.out]; omega, by rw [HQ.out, show q - 4096 * (k + 1) = d - 4096 by have := HD.out; omega],
          by rw [HQ.out, show q - 4096 * (k + 1) = d - 4096 by have := HD.out; omega]; have h := HR3.out; rw [List.drop_drop] at h; exact h,
          by rw [show hashes H (k + 1) cur = hashes H k cur ++ H (z32 ++ (cur.drop (4096 * k)).take 4096) from rfl, HHS.out, HBLK.out]; exact hR7, (hB2.trans (hB5.mono hzz)).trans hB7⟩, by simp only [lenOf]; omega⟩
end Go.Proofs.YtfanlhkpblemgaaDoor
