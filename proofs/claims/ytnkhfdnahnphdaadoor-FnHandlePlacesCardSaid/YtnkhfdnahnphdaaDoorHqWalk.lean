/- FnHandlePlaces: the walks of length and byteAt. -/
import Derived.Test.YtnkhfdnahnphdaaDoorHpPlain
import Derived.Test.YtnkhfdnahnphdaaDoorRfWalk
namespace Go.Proofs.YtnkhfdnahnphdaaDoor
open Go.ChangeShapes Go.WideShapes Go.ChangeAt Go.RowKit Go.Rd
set_option linter.unusedVariables false
open Go.Proofs.YtnkhfdnahnphdaaDoorW.PrintWords Go.Proofs.YtnkhfdnahnphdaaDoorW.PrintLast Go.Proofs.YtnkhfdnahnphdaaDoorW.PrintMore

/-- What the cells of a deed that was laid hold. -/
def LainK (w : World) (x : Lain) (cs : List Value) : Prop :=
  ∃ A c, cs = [.int .i64 (x.at_ : Int), .slice A x.b.length c, .bool x.cut] ∧ BytesIn w A x.b.length c x.b
/-- Deeds within bounds. -/
def LainFit (x : Lain) : Prop := x.at_ ≤ 4096 ∧ x.b.length ≤ 4096
theorem lains_at {w W : World} {A : Option Addr} {L : List Lain} (h : ReadsRow (LainK w) 3 W A L.length L) (k : Nat) (hk : k < L.length) :
    ∃ b off A2 c2, A = some ⟨b, off, none⟩ ∧ b < W.heap.size ∧ BytesIn w A2 L[k].b.length c2 L[k].b ∧ W.cell? ⟨b, off + k * 3, none⟩ = some (.int .i64 (L[k].at_ : Int)) ∧ W.cell? ⟨b, off + k * 3 + 1, none⟩ = some (.slice A2 L[k].b.length c2) ∧ W.cell? ⟨b, off + k * 3 + 2, none⟩ = some (.bool L[k].cut) := by
  obtain ⟨ad, e, hc⟩ := h.2.2 (by omega)
  obtain ⟨c, hs, ⟨A2, c2, hr, hb⟩, hcell⟩ := hc k _ (List.getElem?_eq_getElem hk)
  subst hr
  obtain ⟨b, off, sp⟩ := ad
  have hs : sp = none := by
    obtain ⟨c0, _, ⟨A3, c3, hr0, _⟩, hcell0⟩ := hc 0 _ (List.getElem?_eq_getElem (show 0 < L.length by omega))
    subst hr0
    have h0 := hcell0 0 _ rfl
    cases sp with
    | none => rfl
    | some s => simp [Addr.add, World.cell?] at h0; split at h0 <;> simp at h0
  subst hs
  simp only [addr_add] at hcell
  have g0 := hcell 0 _ rfl
  have g1 := hcell 1 _ rfl
  have g2 := hcell 2 _ rfl
  exact ⟨b, off, A2, c2, e, cell_lt g0, hb, g0, by rw [Nat.add_assoc]; exact g1, by rw [Nat.add_assoc]; exact g2⟩

/-- The state of length's loop. -/
def LenRel (w : World) (L : List Lain) (n i : Value) (wr : World) : Prop := ∃ k : Nat, k ≤ L.length ∧ i = .int .i64 k ∧ n = .int .i64 (lenOfL (L.take k)) ∧ Below w.heap.size w wr
theorem lenOf_bd (L : List Lain) (h : ∀ x ∈ L, LainFit x) (k : Nat) : lenOfL (L.take k) ≤ 8192 := by
  refine snoc_ind (P := fun l => (∀ x ∈ l, LainFit x) → lenOfL l ≤ 8192) (fun _ => by decide) (fun l x ih h => ?_) (L.take k) (fun x hx => h x (List.mem_of_mem_take hx))
  have h1 := ih (fun y hy => h y (List.mem_append_left _ hy))
  have h2 := h x (List.mem_append_right _ (List.mem_singleton.2 rfl))
  rw [lenOf_snoc]
  unfold lenStep
  obtain ⟨h3, h4⟩ := h2
  split <;> omega

set_option maxRecDepth 100000 in
set_option maxHeartbeats 2000000 in
theorem length_any (A : Option Addr) (c : Nat) (L : List Lain) (w0 w : World) (h : ReadsRow (LainK w0) 3 w A L.length L) (hf : ∀ x ∈ L, LainFit x) (hl : L.length ≤ 1000) :
    Calls Tryd.prog 10 #[.slice A L.length c] w fun e w' => e = .returned (.int .i64 (lenOfL L : Int)) ∧ Below w.heap.size w w' := by
  have HF := Lib.hid hf
  have HR := Lib.hid h
  clear h hf
  go_enter Tryd.func10, Tryd.ntmps10
  go_wp2
  go_loopw [3, 8] (fun n i wr => LenRel w L n i wr) (fun _ i _ => L.length - (intOf i).toNat)
  case atStart => exact ⟨0, Nat.zero_le _, rfl, rfl, Below.refl _ _⟩
  case round =>
    obtain ⟨k, hk, rfl, rfl, hB⟩ := hrel
    have hbd := lenOf_bd L HF.out k
    by_cases hlt : k < L.length
    · obtain ⟨b, off, A2, c2, rfl, hbl, hby, x0, x1, x2⟩ := lains_at HR.out k hlt
      have y0 := (hB.cell (p := ⟨b, off + k * 3, none⟩) hbl).trans x0
      have y1 := (hB.cell (p := ⟨b, off + k * 3 + 1, none⟩) hbl).trans x1
      have y2 := (hB.cell (p := ⟨b, off + k * 3 + 2, none⟩) hbl).trans x2
      obtain ⟨hf1, hf2⟩ := HF.out L[k] (List.getElem_mem hlt)
      have hts : L.take (k + 1) = L.take k ++ [L[k]] := List.take_succ_eq_append_getElem hlt
      have hsn := lenOf_snoc (L.take k) L[k]
      rw [← hts] at hsn
      have HSN := Lib.hid hsn
      clear x0 x1 x2 hts hsn hby
      generalize L[k] = x at *
      obtain ⟨a, bb, cut⟩ := x
      simp only at y0 y1 y2 hf1 hf2
      have hBa : ∀ o, Below w.heap.size w (wr.alloc o) := fun o => hB.alloc hB.size o
      cases cut with
      | true =>
        go_wp2
        exact ⟨⟨k + 1, by omega, by go_num, by rw [HSN.out]; simp [lenStep], hBa _⟩, by simp [intOf]; omega⟩
      | false =>
        by_cases hm : lenOfL (L.take k) < a + bb.length
        · go_wp2
          exact ⟨⟨k + 1, by omega, by go_num, by rw [HSN.out]; simp [lenStep]; omega, hBa _⟩, by simp [intOf]; omega⟩
        · go_wp2
          exact ⟨⟨k + 1, by omega, by go_num, by rw [HSN.out]; simp [lenStep]; omega, hBa _⟩, by simp [intOf]; omega⟩
    · obtain rfl : k = L.length := by omega
      go_wp2
      go_ret
      rw [List.take_length]
      exact ⟨rfl, hB⟩

/-- The state of byteAt's loop. -/
def ByteRel (w : World) (L : List Lain) (p : Nat) (i : Value) (wr : World) : Prop := ∃ k : Nat, k ≤ L.length ∧ i = .int .i64 ((k : Int) - 1) ∧ byteAtP L p = byteR (L.take k).reverse p ∧ Below w.heap.size w wr

set_option maxRecDepth 100000 in
set_option maxHeartbeats 2000000 in
theorem byteAt_any (A : Option Addr) (c : Nat) (L : List Lain) (p : Nat) (w0 w : World) (h : ReadsRow (LainK w0) 3 w A L.length L) (hB0 : Below w0.heap.size w0 w) (hf : ∀ x ∈ L, LainFit x) (hl : L.length ≤ 1000) (hp : p ≤ 100000) :
    Calls Tryd.prog 11 #[.slice A L.length c, .int .i64 (p : Int)] w fun e w' => e = .returned (.int .u8 (byteAtP L p)) ∧ Below w.heap.size w w' := by
  have HF := Lib.hid hf
  have HR := Lib.hid h
  clear h hf
  obtain ⟨r, hr⟩ : ∃ r, byteAtP L p = r := ⟨_, rfl⟩
  rw [hr]
  have HRR := Lib.hid hr
  clear hr
  go_enter Tryd.func11, Tryd.ntmps11
  go_wp2
  go_loopw [5] (fun i wr => ByteRel w L p i wr) (fun i _ => (intOf i + 1).toNat)
  case atStart => exact ⟨L.length, Nat.le_refl _, rfl, by rw [List.take_length]; rfl, Below.refl _ _⟩
  case round =>
    obtain ⟨k, hk, rfl, hbr, hB⟩ := hrel
    rw [HRR.out] at hbr
    cases k with
    | zero =>
      have HBR := Lib.hid hbr
      clear hbr
      go_wp2
      go_ret
      rw [HBR.out]
      exact ⟨rfl, hB⟩
    | succ k =>
      have hlt : k < L.length := hk
      obtain ⟨b, off, A2, c2, rfl, hbl, hby, x0, x1, x2⟩ := lains_at HR.out k hlt
      have y0 := (hB.cell (p := ⟨b, off + k * 3, none⟩) hbl).trans x0
      have y1 := (hB.cell (p := ⟨b, off + k * 3 + 1, none⟩) hbl).trans x1
      have y2 := (hB.cell (p := ⟨b, off + k * 3 + 2, none⟩) hbl).trans x2
      obtain ⟨hf1, hf2⟩ := HF.out L[k] (List.getElem_mem hlt)
      have hts : L.take (k + 1) = L.take k ++ [L[k]] := List.take_succ_eq_append_getElem hlt
      rw [hts, List.reverse_append] at hbr
      have hbr2 : r = byteR (L[k] :: (L.take k).reverse) p := hbr
      unfold byteR at hbr2
      have hby2 := (hby.below hB0).below hB
      clear x0 x1 x2 hts hbr hby
      generalize L[k] = x at *
      obtain ⟨a, bb, cut⟩ := x
      simp only at y0 y1 y2 hf1 hf2 hbr2 hby2
      have hBa : ∀ o, Below w.heap.size w (wr.alloc o) := fun o => hB.alloc hB.size o
      cases cut with
      | true =>
        by_cases hap : a ≤ p
        · rw [if_pos ⟨rfl, hap⟩] at hbr2
          have HBR := Lib.hid hbr2
          clear hbr2
          go_wp2
          go_ret
          rw [HBR.out]
          exact ⟨rfl, hBa _⟩
        · rw [if_neg (by omega), if_neg (by simp)] at hbr2
          have HBR := Lib.hid hbr2
          clear hbr2
          go_wp2
          exact ⟨⟨k, by omega, rfl, by rw [HRR.out]; exact HBR.out, hBa _⟩, by simp [intOf]⟩
      | false =>
        rw [if_neg (by simp)] at hbr2
        by_cases hap : a ≤ p ∧ p < a + bb.length
        · rw [if_pos ⟨rfl, hap⟩] at hbr2
          have HBR := Lib.hid hbr2
          obtain ⟨hap1, hap2⟩ := hap
          clear hbr2
          obtain ⟨b2, off2, rfl, hb2l, hcell⟩ := hby2.form (by omega)
          obtain ⟨c0, hc0⟩ : ∃ c0, bb[p - a]? = some c0 := ⟨bb[p - a], List.getElem?_eq_getElem (by omega)⟩
          have z0 := hcell (p - a) c0 hc0
          have HC0 := Lib.hid hc0
          clear hcell hc0
          go_wp2
          go_ret
          refine ⟨?_, hBa _⟩
          have e := HBR.out
          rw [List.getD_eq_getElem?_getD, HC0.out] at e
          rw [e]
          rfl
        · rw [if_neg (by simp; omega)] at hbr2
          have HBR := Lib.hid hbr2
          clear hbr2
          by_cases hap1 : a ≤ p
          · have hap2 : a + bb.length ≤ p := by omega
            clear hap
            go_wp2
            exact ⟨⟨k, by omega, rfl, by rw [HRR.out]; exact HBR.out, hBa _⟩, by simp [intOf]⟩
          · clear hap
            go_wp2
            exact ⟨⟨k, by omega, rfl, by rw [HRR.out]; exact HBR.out, hBa _⟩, by simp [intOf]⟩
end Go.Proofs.YtnkhfdnahnphdaaDoor
