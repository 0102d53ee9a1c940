/- FnVerityBack: a device of hashes is read. -/
import Derived.Test.YtfanlhkpblemgaaDoorVmWalk
import Derived.Test.YtfanlhkpblemgaaDoorVlWalk
import Derived.Deep.RegionHeld3
namespace Go.Proofs.YtfanlhkpblemgaaDoor
open Go.RowKit Go.Rd
set_option linter.unusedVariables false
set_option linter.unusedSimpArgs false
open Go.Proofs.YtfanlhkpblemgaaDoorW.PrintWords Go.Proofs.YtfanlhkpblemgaaDoorW.PrintLast Go.Proofs.YtfanlhkpblemgaaDoorW.PrintMore

/-- What is told of a device of hashes. -/
def infoL (root salt alg : ByteArray) (n : Int) : Array Value := #[.int .i64 n, .bool true, .string root, .string salt, .string alg, .int .u32 4096, .int .u32 4096, .int .u64 n, .int .u32 1]
def ReadPost (root : ByteArray) (n : Int) (w : World) (e : Ending) (w' : World) : Prop :=
  ∃ p, e = .returned (.tuple #[.pointer (some ⟨p, 0, none⟩), .nilIface]) ∧ w.heap.size ≤ p ∧ w'.heap[p]? = some (.cells (infoL root (hexS z32) (strOfNums algV) n) 78 (0, 0)) ∧ Below w.heap.size w w'
theorem hex_any (A : Option Addr) (n c : Nat) (l : List Int) (w : World) (hB : BytesIn w A n c l) (hn : n ≤ 1000) : Calls Tryd.prog 52 #[.slice A n c] w fun e w' => e = .returned (.string (hexS l)) ∧ Drawn0 w w' := by
  have h := hB.len
  subst h
  exact PFnVerityBack.dmverity_hex.calls (l.length + 1) A c l (hexS l) w (C_bytes hB) hB.le (hex_f l hB.fits hn)
theorem hexadecimal_any (A : Option Addr) (n c : Nat) (l : List Int) (w : World) (hB : BytesIn w A n c l) (hn : n ≤ 1000) : Calls Tryd.prog 23 #[.slice A n c] w fun e w' => e = .returned (.string (hexS l)) ∧ Below w.heap.size w w' := by
  have h := hB.len
  subst h
  exact PFnVerityBack.spec_Hexadecimal.calls (l.length + 1) A c l (hexS l) w (C_bytes hB) hB.le (hexadecimal_f l hB.fits hn)
/-- Nothing but draws. -/
def SameH (w w' : World) : Prop := ∃ k, w' = w.drewN k
theorem SameH.trans {a b c : World} (h : SameH a b) (k : SameH b c) : SameH a c := by
  obtain ⟨i, rfl⟩ := h
  obtain ⟨j, rfl⟩ := k
  exact ⟨i + j, by rw [World.drewN_drewN]⟩
theorem SameH.of {a b : World} (h : Drawn0 a b) : SameH a b := by
  obtain ⟨⟨n, rfl⟩⟩ := h
  exact ⟨n, rfl⟩
theorem SameH.below {a b : World} (h : SameH a b) : Below a.heap.size a b := by
  obtain ⟨i, rfl⟩ := h
  exact pw_below_drewN (Below.refl _ _) i
theorem SameH.cell {a b : World} (h : SameH a b) (p : Addr) : b.cell? p = a.cell? p := by
  obtain ⟨i, rfl⟩ := h
  rfl
def StrPost (s : ByteArray) (w0 : World) (e : Ending) (w' : World) : Prop := e = .returned (.string s) ∧ SameH w0 w'
theorem hex_same (A : Option Addr) (n c : Nat) (l : List Int) (w : World) (hB : BytesIn w A n c l) (hn : n ≤ 1000) (W : World) (hW : SameH w W) : Calls Tryd.prog 52 #[.slice A n c] W (StrPost (hexS l) w) :=
  (hex_any A n c l W (hB.below hW.below) hn).mono fun e w' ⟨h1, h2⟩ => ⟨h1, hW.trans (SameH.of h2)⟩
def verV : List Int := [118, 101, 114, 105, 116, 121]
set_option maxRecDepth 100000 in
set_option maxHeartbeats 8000000 in
theorem read_any (A : Option Addr) (m c : Nat) (a : Nat → Int) (n : Int) (R : List Int) (bd : Nat) (W : Nat → Int) (w : World) (hB : BytesIn w A (4096 + m) c (superB (uidOf a) n ++ R)) (hW : WordsAt w bd W) (hm : 4096 ≤ m) (hmx : m ≤ 100000) (hn : 0 ≤ n ∧ n ≤ 300) (hu : Fit8 (uidOf a)) :
    Calls Tryd.prog 39 #[.slice A (4096 + m) c, HashV bd] w (ReadPost (hexS (digest W (z32 ++ ((superB (uidOf a) n ++ R).drop 4096).take 4096))) n w) := by
  obtain ⟨L, hL⟩ : ∃ L, superB (uidOf a) n ++ R = L := ⟨_, rfl⟩
  have hL2 : L.take 4096 = superB (uidOf a) n ++ R.take 3584 := by
    rw [← hL, List.take_append, superB_length rfl, List.take_of_length_le (by rw [superB_length rfl]; decide)]
  rw [hL] at hB ⊢
  obtain ⟨hs1, ht1⟩ := BytesIn.taken hB 4096 (by decide) (by omega)
  obtain ⟨A2, hs2, hd2⟩ := dropped2 hB 4096 (by omega) m (by omega)
  have hb2 := hd2 w hB
  obtain ⟨hs3, ht3⟩ := BytesIn.taken hb2 4096 (by decide) hm
  have hs1' : ∀ W : World, (Instr.slice 22 (.slice A (4096 + m) c) none (some (.int .i64 4096)) none).run Tryd.prog W = .ok (.slice A 4096 c) W := hs1
  have hs2' : ∀ W : World, (Instr.slice 22 (.slice A (4096 + m) c) (some (.int .i64 4096)) none none).run Tryd.prog W = .ok (.slice A2 m (c - 4096)) W := hs2
  have hs3' : ∀ W : World, (Instr.slice 22 (.slice A2 m (c - 4096)) none (some (.int .i64 4096)) none).run Tryd.prog W = .ok (.slice A2 4096 (c - 4096)) W := hs3
  rw [hL2] at ht1
  obtain ⟨T, hT⟩ : ∃ T, (L.drop 4096).take 4096 = T := ⟨_, rfl⟩
  rw [hT] at ht3 ⊢
  have HT1 := Lib.hid ht1
  have HT3 := Lib.hid ht3
  have HW := Lib.hid hW
  have hbl := lt_of_heap hW.blk
  have HU := Lib.hid hu
  have HN := Lib.hid hn
  have hn1 := hn.1
  have hn2 := hn.2
  have hbz := build_z
  obtain ⟨PZ, hPZ⟩ : ∃ PZ, pz.toArray = PZ := ⟨_, rfl⟩
  rw [hPZ] at hbz
  have HBZ := Lib.hid hbz
  have HPZ := Lib.hid hPZ
  have hlt1 : decide (4096 + m < 4096) = false := decide_eq_false (by omega)
  have hlt2 : decide (m < 4096) = false := decide_eq_false (by omega)
  have hAold : ∀ x, A = some x → x.block < w.heap.size := fun x hx => by
    obtain ⟨g, o, e, hg, _⟩ := hB.form (by omega)
    rw [hx] at e
    cases e
    exact hg
  have HA := Lib.hid hAold
  clear hB hW hL hL2 hs1 hs2 hs3 hd2 hb2 ht1 ht3 hT hn hu hbz hPZ hAold
  unfold HashV
  have hP : ∀ (W1 : World), W1.heap[w.heap.size]? = some (.cells PZ 109 (0, 0)) → Below w.heap.size w W1 → Calls Tryd.prog 50 #[.pointer (some ⟨w.heap.size, 0, none⟩), .slice A 4096 c] W1 (ParsePost w.heap.size a n W1) := fun W1 h1 h2 =>
    parse_any w.heap.size a n (R.take 3584) A c _ W1 (by rw [HPZ.out]; exact h1) (HT1.out.below h2) rfl (fun x hx => Nat.ne_of_lt (HA.out x hx)) HN.out
  have HP := Lib.hid hP
  clear hP
  go_enter Tryd.func39, Tryd.ntmps39
  have hTr := fun (W1 : World) (h1 : SbIs W1 w.heap.size (uidOf a) n) => trim_any w.heap.size 0 8 8 verV 2 W1 (h1.segs rfl HU.out).1 118 121 5 rfl rfl rfl (by decide) (by decide) (by decide)
  have hv : strOfNums verV = ⟨#[118, 101, 114, 105, 116, 121]⟩ := by kernel_rfl
  unfold TrimPost at hTr
  rw [hv] at hTr
  have HTR := Lib.hid hTr
  clear hTr hv
  have hcv : ∀ W : World, (convert 106 3 (.int .u16 32)).run Tryd.prog W = .ok (.int .i64 32) W := fun _ => by kernel_rfl
  go_wp2_with (first
    | (go_at_call 51; refine (HTR.out w1 hSb).mono ?_; rintro e w2 ⟨rfl, rfl⟩)
    | (go_at_call 50; refine (HP.out _ (alloc_new w _) ((Below.refl _ _).alloc (Nat.le_refl _) _)).mono ?_; rintro e w1 ⟨rfl, hSb, hw1⟩; have hB1 : Below w.heap.size w w1 := ((Below.refl _ _).alloc (Nat.le_refl _) (.cells PZ 109)).trans (hw1.below (by simp) (fun k hk e => by omega)); obtain ⟨s8, s9, s58, s59, s60, s61⟩ := hSb.scalars rfl; have HSB := Lib.hid hSb)
    | ((with_reducible refine wpList_build rfl 109 _ rfl _ _ ?hv (HBZ.out _) ?_); (case hv => simp [Act.eval])))
  have hBd : Below w2.heap.size w2 w2.drew := (Below.refl _ _).drew
  have hsl : BytesIn w2.drew (some ⟨w.heap.size, 62, none⟩) 32 256 z32 := by
    have h := (BytesIn.taken ((HSB.out.segs rfl HU.out).2.2.2.below hBd) 32 (by decide) (by decide)).2
    rw [show z256.take 32 = z32 by unfold z256 z32; rw [List.take_replicate]; rfl] at h
    exact h
  have hB1d : Below w.heap.size w w2.drew := hB1.drew
  have HH := Lib.hid (hash2_any (some ⟨w.heap.size, 62, none⟩) 32 256 z32 A2 4096 (c - 4096) T bd W w2.drew hsl (HT3.out.below hB1d) (HW.out.below hB1d hbl) (by decide) (by decide))
  unfold HashV at HH
  clear hsl
  obtain ⟨D, hD⟩ : ∃ D, digest W (z32 ++ T) = D := ⟨_, rfl⟩
  have hDl : D.length = 32 := by rw [← hD]; exact (digest_is W).len _
  unfold HashPost at HH
  rw [hD] at HH ⊢
  have HDL := Lib.hid hDl
  have HDD := Lib.hid hD
  clear hD hDl
  go_cut [8] (fun v wx => Row w.heap.size wx v D ∧ Below w2.heap.size w2 wx)
  case first =>
    go_region_law (go_simp; go_at_call 49; refine HH.out.mono ?_; rintro e w3 ⟨v3, rfl, hR3, hB3⟩)
    all_goals
      go_wp2_with fail
      go_meet
      exact ⟨hR3.lower hB1.size, hBd.trans (hB3.mono hBd.size)⟩
  case rest =>
    obtain ⟨hR, hB3⟩ := hcut
    have hSc : SbIs wc w.heap.size (uidOf a) n := (hB3.block _ (lt_of_heap HSB.out)).trans HSB.out
    have hBc : Below w.heap.size w wc := hB1.trans (hB3.mono hB1.size)
    obtain ⟨A8, c8, e8, hby8⟩ := hR.bytes
    subst e8
    rw [HDL.out] at hby8 ⊢
    obtain ⟨t0, t10, t26, t62⟩ := hSc.segs rfl HU.out
    have hsl : BytesIn wc (some ⟨w.heap.size, 62, none⟩) 32 256 z32 := by
      have h := (BytesIn.taken t62 32 (by decide) (by decide)).2
      rw [show z256.take 32 = z32 by unfold z256 z32; rw [List.take_replicate]; rfl] at h
      exact h
    have H1 := Lib.hid (hex_same A8 32 c8 D wc hby8 (by decide))
    have H3 := Lib.hid (hex_same (some ⟨w.heap.size, 62, none⟩) 32 256 z32 wc hsl (by decide))
    have h2 : ∀ W, SameH wc W → Calls Tryd.prog 51 #[.slice (some ⟨w.heap.size, 26, none⟩) 32 32] W (StrPost (strOfNums algV) wc) := fun W hW =>
      (trim_any w.heap.size 26 32 32 algV 26 W (t26.below hW.below) 115 54 5 rfl rfl rfl (by decide) (by decide) (by decide)).mono fun e w' ⟨h1, h2⟩ => ⟨h1, h2 ▸ hW⟩
    have H2 := Lib.hid h2
    clear h2 hsl t0 t10 t26 t62 hby8 s8 s9 s58 s59 s60 s61
    obtain ⟨s8, s9, s58, s59, s60, s61⟩ := hSc.scalars rfl
    have HSC := Lib.hid hSc
    have HCELL := Lib.hid (fun (W : World) (h : SameH wc W) => hSc.scalars (w := wc) rfl)
    obtain ⟨al, hal⟩ : ∃ al, strOfNums algV = al := ⟨_, rfl⟩
    obtain ⟨rt, hrt⟩ : ∃ rt, hexS D = rt := ⟨_, rfl⟩
    obtain ⟨sl, hsl⟩ : ∃ sl, hexS z32 = sl := ⟨_, rfl⟩
    rw [hrt] at H1
    have HRT := Lib.hid hrt
    rw [hal] at H2
    rw [hsl] at H3
    have HAL := Lib.hid hal
    have HSL := Lib.hid hsl
    have hwi : IntKind.i64.wrap n = n := IntWalk.i64_in _ (by omega)
    have hwi2 : wrap64 n = n := IntWalk.wrap64_in _ (by omega)
    clear hal hrt hsl hSc hR
    go_upto_region 15 with fail
    go_region_held3 (fun w' => w'.cell? ⟨w.heap.size, 8, none⟩ = some (.int .u32 1) ∧ w'.cell? ⟨w.heap.size, 58, none⟩ = some (.int .u32 4096) ∧ w'.cell? ⟨w.heap.size, 60, none⟩ = some (.int .u64 n) ∧ w'.cell? ⟨w.heap.size, 61, none⟩ = some (.int .u16 32)) (first | go_keep | (go_split_ands; refine ⟨?_, ?_, ?_, ?_⟩ <;> assumption)) (first
      | (go_at_call 52; refine (H3.out _ hq2).mono ?_; rintro e w6 ⟨rfl, hq3⟩; have y8 := (hq3.cell _).trans s8; have y58 := (hq3.cell _).trans s58; have y60 := (hq3.cell _).trans s60; have y61 := (hq3.cell _).trans s61)
      | (go_at_call 51; refine (H2.out _ hq1).mono ?_; rintro e w5 ⟨rfl, hq2⟩; have y8 := (hq2.cell _).trans s8; have y58 := (hq2.cell _).trans s58; have y60 := (hq2.cell _).trans s60; have y61 := (hq2.cell _).trans s61)
      | (go_at_call 52; refine (H1.out _ (by first | exact ⟨_, rfl⟩ | exact ⟨1, rfl⟩ | exact ⟨0, rfl⟩)).mono ?_; rintro e w4 ⟨rfl, hq1⟩; have y8 := (hq1.cell _).trans s8; have y58 := (hq1.cell _).trans s58; have y60 := (hq1.cell _).trans s60; have y61 := (hq1.cell _).trans s61))
    go_wp2_with fail
    go_ret2
    have hB6 : Below w.heap.size w w6 := hBc.trans (hq3.below.mono hBc.size)
    refine ⟨w6.heap.size, rfl, hB6.size, ?_, hB6.alloc hB6.size _⟩
    rw [HDD.out, HRT.out, HSL.out, HAL.out]
    exact alloc_new w6 _
end Go.Proofs.YtfanlhkpblemgaaDoor
