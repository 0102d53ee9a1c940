/- FnVhdFooter: the law's walk. -/
import Derived.Test.YtjpahogldfmaeabVePlain
import Derived.Test.YtjpahogldfmaeabRows
namespace Go.Proofs.Ytjpahogldfmaeab
open Go.RowKit Go.Rd
set_option linter.unusedVariables false
open Go.Proofs.YtjpahogldfmaeabW.PrintWords Go.Proofs.YtjpahogldfmaeabW.PrintLast Go.Proofs.YtjpahogldfmaeabW.PrintMore

theorem C_of_bytes {w : World} {A : Option Addr} {n c : Nat} {l : List Int} (h : BytesIn w A n c l) : Kd.C (Kd.int .u8) w A n l := by
  refine ⟨h.len, by have := h.le; have := h.max; simp [maxLen] at this; omega, fun hn => ?_⟩
  cases A with
  | none => have := (h.nil rfl).1; omega
  | some ad =>
    refine ⟨ad, rfl, fun j p hj => ⟨[.int .u8 p], rfl, rfl, fun i u hu => ?_⟩⟩
    have hi : i = 0 := by
      have := (List.getElem?_eq_some_iff.1 hu).1
      simp at this; omega
    subst hi
    cases hu
    have e : j * (Kd.int IntKind.u8).sz + 0 = j := by
      have : (Kd.int IntKind.u8).sz = 1 := rfl
      rw [this]; omega
    rw [e]
    exact h.cells ad rfl j _ (by simp [hj])
theorem bytes_string {w : World} {A : Option Addr} {n c : Nat} {l : List Int} (h : BytesIn w A n c l) : (convert 22 9 (.slice A n c)).run Try.prog w = .ok (.string (strOfNums l)) w :=
  Kd.C_string Try.underlying22 Try.underlying5 Try.underlying9 (C_of_bytes h)


theorem BlkIs.bytes {w : World} {g : Nat} {L : List Int} (h : BlkIs w g L) (hl : L.length = 512) (hf : ∀ c ∈ L, 0 ≤ c ∧ c ≤ 255) : BytesIn w (some ⟨g, 0, none⟩) 512 512 L := by
  refine ⟨hl, fun e => (by cases e), Nat.le_refl _, by decide, fun x hx j u hu => ?_, hf⟩
  cases hx
  rw [addr_add, Nat.zero_add, cell_of h]
  simpa using hu
theorem fits_app {l m : List Int} (h1 : ∀ c ∈ l, 0 ≤ c ∧ c ≤ 255) (h2 : ∀ c ∈ m, 0 ≤ c ∧ c ≤ 255) : ∀ c ∈ l ++ m, 0 ≤ c ∧ c ≤ 255 := by
  intro c hc
  rcases List.mem_append.1 hc with g | g
  · exact h1 c g
  · exact h2 c g
theorem be64_fits (x : Int) (h : 0 ≤ x ∧ x < 18446744073709551616) : ∀ c ∈ be64 x, 0 ≤ c ∧ c ≤ 255 :=
  fits_app (be32_fits _ (by omega)) (be32_fits _ (by omega))
theorem footB_fits (z chk : Int) {u : List Int} (hz : 0 ≤ z ∧ z < 18446744073709551616) (hc : 0 ≤ chk ∧ chk ≤ 4294967295) (hu : ∀ c ∈ u, 0 ≤ c ∧ c ≤ 255) : ∀ c ∈ footB cook z chk u, 0 ≤ c ∧ c ≤ 255 := by
  unfold footB
  have h0 : ∀ c ∈ ([0, 0, 0, 0] : List Int), 0 ≤ c ∧ c ≤ 255 := by decide
  refine fits_app (fits_app (fits_app (fits_app (fits_app (fits_app (fits_app (fits_app (fits_app (fits_app (fits_app (fits_app (fits_app (fits_app (fits_app ?_ (be32_fits _ (by decide))) (be32_fits _ (by decide))) (be64_fits _ (by decide))) (be32_fits _ (by decide))) h0) (be32_fits _ (by decide))) h0) (be64_fits _ hz)) (be64_fits _ hz)) (be32_fits _ (by decide))) (be32_fits _ (by decide))) (be32_fits _ hc)) hu) (by decide)) (fun c hc => by rw [(List.mem_replicate.1 hc).2]; decide)
  decide

set_option maxRecDepth 100000 in
set_option maxHeartbeats 2000000 in
theorem vh_walk (size : Int) (A : Option Addr) (n c : Nat) (bs : List Int) (w : World) (hb : BytesIn w A n c bs) (hn : n ≤ 100) (hs : -9223372036854775808 ≤ size ∧ size ≤ 9223372036854775807) :
    Calls Try.prog 3 #[.int .i64 size, .slice A n c] w fun e w' => e = .returned (.bool true) ∧ Below w.heap.size w w' := by
  have h1 := fun (W : World) (hB : Below w.heap.size w W) => vhd_any size A n c bs W (hb.below hB) hn hs
  have h2 := fun (W : World) (hB : Below w.heap.size w W) => footer_any size A n c bs W (hb.below hB) hn hs
  obtain ⟨z, hz⟩ : ∃ z, IntKind.u64.wrap size = z := ⟨_, rfl⟩
  have hzb := wrap_u64_bd size
  rw [hz] at h1 hzb
  have hcb : 0 ≤ cpl (sumTo (specB z (pad16 bs))) ∧ cpl (sumTo (specB z (pad16 bs))) ≤ 4294967295 := bits_u32 _ _
  have e1 : specC z (cpl (sumTo (specB z (pad16 bs)))) (pad16 bs) = footB cook z (cpl (sumTo (footB cook z 0 (pad16 bs)))) (pad16 bs) := by
    rw [specC_eq z _ _ hzb.1 hzb.2 hcb.1 hcb.2 (pad16_length bs), specB_eq z _ hzb.1 hzb.2 (pad16_length bs)]
  rw [hz, e1] at h2
  have hcb2 : 0 ≤ cpl (sumTo (footB cook z 0 (pad16 bs))) ∧ cpl (sumTo (footB cook z 0 (pad16 bs))) ≤ 4294967295 := bits_u32 _ _
  obtain ⟨F, hF⟩ : ∃ F, footB cook z (cpl (sumTo (footB cook z 0 (pad16 bs)))) (pad16 bs) = F := ⟨_, rfl⟩
  have hFl : F.length = 512 := by rw [← hF]; exact footB_length _ _ _ _ rfl (pad16_length bs)
  rw [hF] at h1 h2
  have H1 := Lib.hid h1
  have H2 := Lib.hid h2
  have HFL := Lib.hid hFl
  have hfits : ∀ x ∈ F, 0 ≤ x ∧ x ≤ 255 := by rw [← hF]; exact footB_fits _ _ (by omega) hcb2 (pad16_fits hb.fits)
  have HFIT := Lib.hid hfits
  clear hfits hcb2
  clear h1 h2 hF hFl e1 hcb hzb hz hs
  have gd : decide ((100 : Int) < (n : Int)) = false := decide_eq_false (by omega)
  go_enter Try.func3, Try.ntmps3
  go_wp2_with fail
  go_region_law (first
    | (go_simp; go_at_call 4; refine (H1.out _ ((Below.refl _ _).drew)).mono ?_; rintro e w1 ⟨v1, rfl, hR1, hB1⟩; obtain ⟨A1, c1, ev1, hb1⟩ := BytesIn.own hR1.1 hR1.2; subst ev1; rw [HFL.out] at hb1; have hL1 := (Below.refl w.heap.size w).drew.trans (hB1.mono (Nat.le_refl _)); have z1 : (convert 22 9 (.slice A1 512 c1)).run Try.prog w1 = .ok (.string (strOfNums F)) w1 := bytes_string hb1; rw [HFL.out])
    | (go_simp; go_at_call 5; refine (H2.out _ hL1).mono ?_; rintro e w2 ⟨g2, rfl, h2, hg2, hB2⟩; have hb2 := h2.bytes HFL.out HFIT.out; have z2 : (convert 22 9 (.slice (some ⟨g2, 0, none⟩) 512 512)).run Try.prog w2 = .ok (.string (strOfNums F)) w2 := bytes_string hb2; have z3 : (convert 22 9 (.slice A1 512 c1)).run Try.prog w2 = .ok (.string (strOfNums F)) w2 := bytes_string (hb1.below hB2); rw [HFL.out]))
  all_goals
    go_wp2_with fail
    go_ret
    exact ⟨rfl, hL1.trans (hB2.mono hL1.size)⟩

theorem vh_main (w : World) (size : Int) (hw : (Lit.int .i64 size).wf = true) (A : Option Addr) (n c : Nat) (zs : List Int) (hr : IsRow .u8 w A n c zs) :
    Calls Try.prog 3 #[.int .i64 size, .slice A n c] w fun e w' => e = .returned (.bool true) ∧ Below w.heap.size w w' := by
  have hs : -9223372036854775808 ≤ size ∧ size ≤ 9223372036854775807 := by simpa [Lit.wf, IntKind.min, IntKind.max, IntKind.bits, IntKind.signed] using hw
  have hb := BytesIn.of_row hr
  clear hw hr
  by_cases g0 : n ≤ 2147483647
  rotate_left
  · have g : 2147483647 < n := by omega
    clear g0 hb hs
    go_enter Try.func3, Try.ntmps3
    go_wp2
    go_ret
    exact ⟨rfl, Below.refl _ _⟩
  by_cases g1 : n ≤ 100
  rotate_left
  · have g : 100 < n := by omega
    have gd : decide ((100 : Int) < (n : Int)) = true := decide_eq_true (by omega)
    clear g1 hb hs
    go_enter Try.func3, Try.ntmps3
    go_wp2_with fail
    go_quiet (fail)
    go_wp2_with fail
    go_ret
    exact ⟨rfl, pw_below_drewN (Below.refl _ _) _⟩
  exact vh_walk size A n c _ w hb g1 hs
end Go.Proofs.Ytjpahogldfmaeab
