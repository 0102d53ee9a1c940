/- FnAttributesFit: the law's walk. -/
import Derived.Test.YtjpahogldfmaeabDoorAkPlain
import Derived.Test.YtjpahogldfmaeabDoorOp
import Derived.Test.YtjpahogldfmaeabDoorLd
import Derived.Test.YtjpahogldfmaeabDoorRows
namespace Go.Proofs.YtjpahogldfmaeabDoor
open Go.ChangeShapes Go.WideShapes Go.ChangeAt Go.RowKit Go.Rd
open Go.Proofs.YtjpahogldfmaeabDoorW.PrintWords Go.Proofs.YtjpahogldfmaeabDoorW.PrintLast Go.Proofs.YtjpahogldfmaeabDoorW.PrintMore
open PFnAttributesFit

theorem heap34 : Kd.Heap k34 := Kd.heap_iso _ (Kd.heap_pair Kd.heap_string (Kd.heap_slice _ (Kd.heap_int _)))

/-- The parts of a list at places, of one kind as of the other. -/
theorem picks_47 (l : List S34) (I : List Int) (h : ∀ j ∈ I, 0 ≤ j ∧ j < (l.length : Int)) : I.map (rd_T47 (l.map to47)) = (I.map (rd_T34 l)).map to47 := by
  rw [List.map_map]
  apply List.map_congr_left
  intro j hj
  obtain ⟨h0, h1⟩ := h j hj
  obtain ⟨n, rfl⟩ := Int.eq_ofNat_of_zero_le h0
  have hn : n < l.length := by omega
  show rd_T47 (l.map to47) (n : Int) = to47 (rd_T34 l (n : Int))
  rw [rd34 l n hn, rd47 _ n (by simpa using hn), List.getElem_map]

theorem len_cond (n : Nat) (b : Bool) (h : n = 0 → b = true) : (decide (0 < n) || b) = true := by
  by_cases h0 : n = 0
  · simp [h h0]
  · simp; left; omega

set_option maxHeartbeats 2000000 in
theorem af_last (A : Option Addr) (c : Nat) (l : List S34) (w : World) (hC : Kd.C k34 w A l.length l) (hc : l.length ≤ c) (ty : TypeId) (fr : Nat × Nat) (hT : w.heap[0]? = some (.cells tab ty fr)) (hn : l.length ≤ 40)
    (hv : Hid (∀ x ∈ l, x.f1.length ≤ 4096)) (hb : Hid (∀ x ∈ l, x.f0.size ≤ maxLen ∧ (pick x.f0 prefs).2.size ≤ 2147483647)) (k1 k2 k3 k4 k5 : Nat) (R1 R2 : List Int) (b q : Bool) (I O : List S34) (L : List S47)
    (H1 : Hid (laws_zzFits7.f k1 l = some true)) (H2 : Hid (laws_attributesFair.f k2 l = some true)) (H3 : Hid (laws_dupXattrs.f k3 l = some l)) (H4 : Hid (laws_attributes.f k4 l = some (l.map to47))) (HL : Hid (l.map to47 = L))
    (HR : Hid (fitFrom (roomsOf (l.map (·.f0)) (l.map (·.f1))) 0 96 4060 [] [] = (R1, R2, b))) (HI : Hid (R1.map (rd_T34 l) = I)) (HO : Hid (R2.map (rd_T34 l) = O)) (H5 : Hid (spec_Fitted.f k5 L = some (I.map to47, O.map to47, b)))
    (lI : I.length ≤ 40) (lO : O.length ≤ 40) (hd : decide (0 < l.length) = q) (hq : Hid ((q || b) = true)) :
    Calls Tryd.prog 3 #[.slice A l.length c] w fun e w' => e = .returned (.bool true) ∧ Below w.heap.size w w' := by
  have W1 : ∀ (A : Option Addr) (c : Nat) (A' : Option Addr) (c' : Nat) (w : World), Kd.C k34 w A I.length I → Kd.C k47 w A' I.length (I.map to47) → Calls Tryd.prog 10 #[.slice A I.length c, .slice A' I.length c'] w fun e w' => e = .returned (.bool true) ∧ Below w.heap.size w w' := fun A c A' c' w h1 h2 => same_any A c A' c' I w h1 h2 (by omega)
  have W2 : ∀ (A : Option Addr) (c : Nat) (A' : Option Addr) (c' : Nat) (w : World), Kd.C k34 w A O.length O → Kd.C k47 w A' O.length (O.map to47) → Calls Tryd.prog 10 #[.slice A O.length c, .slice A' O.length c'] w fun e w' => e = .returned (.bool true) ∧ Below w.heap.size w w' := fun A c A' c' w h1 h2 => same_any A c A' c' O w h1 h2 (by omega)
  have HW1 := Lib.hid W1
  have HW2 := Lib.hid W2
  clear W1 W2
  cases q <;> cases b
  · exact absurd hq.out (by simp)
  all_goals
    go_enter Tryd.func3, Tryd.ntmps3
    go_wp2_with (first
      | (go_at_call 4; refine (laws_zzFits7.calls k1 A c l true w hC hc H1.out).mono ?_; rintro e w1 ⟨rfl, hb1⟩)
      | (go_at_call 5; refine (laws_attributesFair.calls k2 A c l true w1 (Kd.C_below hC hb1) hc H2.out).mono ?_; rintro e w2 ⟨rfl, hb2⟩; have hB2 := hb1.trans (hb2.mono hb1.size))
      | (go_at_call 7; refine (laws_dupXattrs.calls k3 A c l l w2 (Kd.C_below hC hB2) hc H3.out).mono ?_; rintro e w3 ⟨v3, rfl, hS3, hb3⟩; obtain ⟨A3, c3, e3, hl3, hC3⟩ := Kd.S_reads hS3; subst e3; have hB3 := hB2.trans (hb3.mono hB2.size))
      | (go_at_call 6; refine (fitX_any A3 c3 l w3 hC3 hn hv hb ty fr ((hB3.block 0 (lt_of_heap hT)).trans hT) (R1, R2, _) HR.out).mono ?_; rintro e w4 ⟨v4, v5, rfl, hO4, hO5, hb4⟩; rw [HI.out] at hO4; rw [HO.out] at hO5; obtain ⟨A4, c4, e4, hl4, hC4⟩ := OwnRow.reads hO4; obtain ⟨A5, c5, e5, hl5, hC5⟩ := OwnRow.reads hO5; subst e4 e5; have hB4 := hB3.trans (hb4.mono hB3.size))
      | (go_at_call 9; refine (laws_attributes.calls k4 _ A c l _ w4 ⟨A, c, rfl, hc, Kd.C_F heap34 (Kd.C_below hC hB4)⟩ H4.out).mono ?_; rintro e w5 ⟨v6, rfl, hN6, hb5⟩; rw [HL.out] at hN6; obtain ⟨A6, c6, e6⟩ := Kd.N_slice hN6; subst e6; have hB5 := hB4.trans (hb5.mono hB4.size))
      | (go_at_call 8; refine (spec_Fitted.calls k5 _ A6 c6 L _ _ _ w5 (Kd.N_V hN6) H5.out).mono ?_; rintro e w6 ⟨v7, v8, rfl, hN7, hN8, hb6⟩; obtain ⟨A7, c7, e7, hl7, hC7⟩ := Kd.N_reads hN7; obtain ⟨A8, c8, e8, hl8, hC8⟩ := Kd.N_reads hN8; rw [List.length_map] at e7 e8 hC7 hC8; subst e7 e8; have hB6 := hB5.trans (hb6.mono hB5.size); have hC4' : Kd.C k34 w4 A4 I.length I := ReadsRow.imp_ hC4 (Below.refl _ _) (fun p c h => k34.K_below hb4 h); have hC5' : Kd.C k34 w4 A5 O.length O := ReadsRow.imp_ hC5 (Below.refl _ _) (fun p c h => k34.K_below hb4 h); have hC4'' := Kd.C_below (Kd.C_below hC4' hb5) hb6; have hC5'' := Kd.C_below (Kd.C_below hC5' hb5) hb6)
      | (go_at_call 10; (with_reducible refine (HW1.out A4 c4 A7 c7 w6 hC4'' hC7).mono ?_); rintro e w7 ⟨rfl, hb7⟩; have hB7 := hB6.trans (hb7.mono hB6.size))
      | (go_at_call 10; (with_reducible refine (HW2.out A5 c5 A8 c8 w7 (Kd.C_below hC5'' hb7) (Kd.C_below hC8 hb7)).mono ?_); rintro e w8 ⟨rfl, hb8⟩; have hB8 := hB7.trans (hb8.mono hB7.size)))
    all_goals
      go_ret
      exact ⟨rfl, hB8⟩

set_option maxHeartbeats 2000000 in
theorem af_walk (A : Option Addr) (c : Nat) (l : List S34) (w : World) (hC : Kd.C k34 w A l.length l) (hc : l.length ≤ c) (hsz : Hid (∀ x ∈ l, x.f0.size ≤ maxLen)) (ty : TypeId) (fr : Nat × Nat) (hT : w.heap[0]? = some (.cells tab ty fr)) :
    Calls Tryd.prog 3 #[.slice A l.length c] w fun e w' => e = .returned (.bool true) ∧ Below w.heap.size w w' := by
  obtain ⟨k1, r1, h1, g1⟩ := fits_some l
  cases r1 with
  | false =>
    go_enter Tryd.func3, Tryd.ntmps3
    go_wp2_with (go_at_call 4; refine (laws_zzFits7.calls k1 A c l false w hC hc h1).mono ?_; rintro e w1 ⟨rfl, hb1⟩)
    go_ret
    exact ⟨rfl, hb1⟩
  | true =>
    obtain ⟨k2, r2, h2, g2⟩ := fair_some l
    cases r2 with
    | false =>
      go_enter Tryd.func3, Tryd.ntmps3
      go_wp2_with (first
        | (go_at_call 4; refine (laws_zzFits7.calls k1 A c l true w hC hc h1).mono ?_; rintro e w1 ⟨rfl, hb1⟩)
        | (go_at_call 5; refine (laws_attributesFair.calls k2 A c l false w1 (Kd.C_below hC hb1) hc h2).mono ?_; rintro e w2 ⟨rfl, hb2⟩))
      go_ret
      exact ⟨rfl, hb1.trans (hb2.mono hb1.size)⟩
    | true =>
      obtain ⟨hn, hg⟩ := g2 rfl
      have hv : Hid (∀ x ∈ l, x.f1.length ≤ 4096) := fun x hx => (hg x hx).2
      have hb : Hid (∀ x ∈ l, x.f0.size ≤ maxLen ∧ (pick x.f0 prefs).2.size ≤ 2147483647) := fun x hx => ⟨hsz.out x hx, by have := (hg x hx).1; omega⟩
      obtain ⟨k3, h3⟩ := dup_ev l hn hv.out
      obtain ⟨k4, h4⟩ := attr_ev l hn
      obtain ⟨R, hR⟩ : ∃ R, fitFrom (roomsOf (l.map (·.f0)) (l.map (·.f1))) 0 96 4060 [] [] = R := ⟨_, rfl⟩
      obtain ⟨k5, h5⟩ := fitted_ev l hn hg R hR
      have hrg := fit_range (roomsOf (l.map (·.f0)) (l.map (·.f1))) 0 96 4060 [] [] l.length (by simp [roomsOf]) (by simp) (by simp)
      have hle := fit_len (roomsOf (l.map (·.f0)) (l.map (·.f1))) 0 96 4060 [] []
      rw [hR] at hrg hle
      rw [picks_47 l R.1 hrg.1, picks_47 l R.2.1 hrg.2] at h5
      have hle1 : R.1.length ≤ 40 ∧ R.2.1.length ≤ 40 := by
        simp only [roomsOf, List.length_zipWith, List.length_map, List.length_nil] at hle
        omega
      have hok := len_cond l.length R.2.2 (fun e => by
        have : l = [] := List.eq_nil_of_length_eq_zero e
        subst this
        rw [← hR]; rfl)
      have HR := Lib.hid hR
      have H1 := Lib.hid h1
      have H2 := Lib.hid h2
      have H3 := Lib.hid h3
      have H4 := Lib.hid h4
      have H5 := Lib.hid h5
      obtain ⟨x1, x2⟩ := hle1
      obtain ⟨I, hI⟩ : ∃ I, R.1.map (rd_T34 l) = I := ⟨_, rfl⟩
      obtain ⟨O, hO⟩ : ∃ O, R.2.1.map (rd_T34 l) = O := ⟨_, rfl⟩
      obtain ⟨L, hL⟩ : ∃ L, l.map to47 = L := ⟨_, rfl⟩
      have HL := Lib.hid hL
      have lI : I.length ≤ 40 := by rw [← hI]; simpa using x1
      have lO : O.length ≤ 40 := by rw [← hO]; simpa using x2
      have HI := Lib.hid hI
      have HO := Lib.hid hO
      have HOK := Lib.hid hok
      rw [hI, hO, hL] at h5
      have H5 := Lib.hid h5
      exact af_last A c l w hC hc ty fr hT hn hv hb k1 k2 k3 k4 k5 R.1 R.2.1 R.2.2 _ I O L H1 H2 H3 H4 HL HR HI HO H5 lI lO rfl HOK
theorem rows34 {w : World} {a : Option Addr} {len cap : Nat} (h : IsRows [.str, .bytes] w a len cap) : ∃ l : List S34, l.length = len ∧ Kd.C k34 w a len l ∧ len ≤ cap ∧ ∀ x ∈ l, x.f0.size ≤ maxLen := by
  refine rows_C k34 rfl (fun x : S34 => x.f0.size ≤ maxLen) (fun cs hcl hcs => ?_) h
  obtain ⟨v0, h0, s, rfl, hs⟩ := hcs 0 _ rfl
  obtain ⟨v1, h1, A, len, cap, zs, rfl, hr⟩ := hcs 1 _ rfl
  obtain ⟨hc, hl, hle, _⟩ := C_of_row hr
  match cs, hcl, h0, h1 with
  | [c0, c1], _, h0, h1 =>
    cases h0
    cases h1
    have hx := k34_mk w ⟨s, zs.take len⟩ (A1 := A) (c1 := cap) (by rw [hl]; exact hle) (by rw [hl]; exact hc)
    rw [hl] at hx
    exact ⟨⟨s, zs.take len⟩, hx, hs⟩
theorem xattr_struct : StructOf Tryd.prog 34 [.str, .bytes] where
  fs := ⟨_, Tryd.underlying34, rfl, fun i k f hk hf => by
    match i, hk, hf with
    | 0, hk, hf => cases hk; cases hf; exact ⟨⟨Tryd.underlying9, by kernel_rfl⟩, rfl⟩
    | 1, hk, hf => cases hk; cases hf; exact ⟨⟨5, Tryd.underlying32, Tryd.underlying5, by kernel_rfl, by kernel_rfl⟩, rfl⟩
    | i + 2, hk, hf => simp at hk⟩
  cells := by kernel_rfl

theorem af_main (w : World) (a : Option Addr) (len cap : Nat) (h : IsRows [.str, .bytes] w a len cap) (hL : laidMetH Tryd.prog Rows.fnAttributesFitRow.laid w) :
    Calls Tryd.prog 3 #[.slice a len cap] w fun e w' => e = .returned (.bool true) ∧ Below w.heap.size w w' := by
  obtain ⟨ty, fr, hT⟩ := pairs_of_head (l := prefs) (rest := []) (g := 0) (t := 64) (e := 63) (n := 7) (by kernel_rfl) (by kernel_rfl) pair_struct hL
  obtain ⟨l, rfl, hC, hc, hs⟩ := rows34 h
  exact af_walk a cap l w hC hc hs ty fr hT
end Go.Proofs.YtjpahogldfmaeabDoor
