/- FnMergeCounts: the law's walk. -/
import Derived.Test.YtfanlhkpblemgaaMgWalk
import Derived.Test.YtfanlhkpblemgaaMhPlain
import Derived.Test.YtfanlhkpblemgaaAr
namespace Go.Proofs.Ytfanlhkpblemgaa
open Go.ChangeShapes Go.WideShapes Go.ChangeAt Go.RowKit Go.Rd
open Go.Proofs.YtfanlhkpblemgaaW.PrintWords Go.Proofs.YtfanlhkpblemgaaW.PrintLast Go.Proofs.YtfanlhkpblemgaaW.PrintMore
open PFnMergeCounts Fi Go.WideMaps
set_option linter.unusedVariables false

theorem kdC_of {w : World} {A : Option Addr} {n c : Nat} {l : List Int} (h : BytesIn w A n c l) : Kd.C (Kd.int .u8) w A n l := by
  refine ⟨h.len, by have := h.le; have := h.max; simp only [maxLen] at this; omega, fun h0 => ?_⟩
  cases A with
  | none => have := (h.nil rfl).1; omega
  | some x =>
    refine ⟨x, rfl, fun j p hp => ⟨[.int .u8 p], rfl, rfl, fun i u hu => ?_⟩⟩
    have hi : i = 0 := by
      have := (List.getElem?_eq_some_iff.1 hu).1
      simp at this; omega
    subst hi
    cases hu
    have e : x.add (j * (Kd.int .u8).sz + 0) = x.add j := by
      have : (Kd.int .u8).sz = 1 := rfl
      rw [this, Nat.mul_one, Nat.add_zero]
    rw [e]
    exact h.cells x rfl j _ (by simp [hp])
theorem ent_k35 {w w' : World} {x : S35} {cs : List Value} (h : EntK w x cs) (hb : Below w.heap.size w w') : k35.K w' x cs := by
  obtain ⟨A, c, rfl, hB⟩ := h
  have hB' := hB.below hb
  exact k35_mk w' x hB'.le (kdC_of hB')
theorem ents_C {w w0 w1 : World} {A : Option Addr} {n : Nat} {l : List S35} (h : ReadsRow (EntK w) 5 w0 A n l) (h0 : Below w.heap.size w w1) (h1 : Below w0.heap.size w0 w1) : Kd.C k35 w1 A n l := ReadsRow.imp_ h h1 (fun p c hp => ent_k35 hp h0)
theorem told_at {w : World} {A : Option Addr} {n : Nat} {l : List S35} (h : ReadsRow ToldK 5 w A n l) (k : Nat) (hk : k < l.length) :
    ∃ b off, A = some ⟨b, off, none⟩ ∧ b < w.heap.size ∧ w.cell? ⟨b, off + k * 5, none⟩ = some (.string (Sp.base l[k].f0)) ∧ w.cell? ⟨b, off + k * 5 + 1, none⟩ = some (.int .i64 (szOf l[k])) ∧ w.cell? ⟨b, off + k * 5 + 2, none⟩ = some (.int .i64 (m32 l[k])) ∧
      w.cell? ⟨b, off + k * 5 + 3, none⟩ = some (.bool l[k].f2) ∧ w.cell? ⟨b, off + k * 5 + 4, none⟩ = some (.int .i64 l[k].f4) := by
  obtain ⟨ad, rfl, hc⟩ := h.2.2 (by have := h.1; omega)
  obtain ⟨c, hcl, rfl, hcell⟩ := hc k l[k] (by simp [hk])
  have hx0 := hcell 0 _ rfl
  have hx1 := hcell 1 _ rfl
  have hx2 := hcell 2 _ rfl
  have hx3 := hcell 3 _ rfl
  have hx4 := hcell 4 _ rfl
  obtain ⟨b, off, sp⟩ := ad
  have hs : sp = none := by
    cases sp with
    | none => rfl
    | some s =>
      obtain ⟨c0, hc0, rfl, hcell0⟩ := hc 0 l[0] (by simp [Nat.lt_of_le_of_lt (Nat.zero_le k) hk])
      have hy := hcell0 0 _ rfl
      exact absurd (spot_none hy) (by simp [Addr.add])
  subst hs
  rw [addr_add] at hx0 hx1 hx2 hx3 hx4
  exact ⟨b, off, rfl, cell_lt hx0, hx0, by rw [Nat.add_assoc]; exact hx1, by rw [Nat.add_assoc]; exact hx2, by rw [Nat.add_assoc]; exact hx3, by rw [Nat.add_assoc]; exact hx4⟩
def told (x : S35) : List UInt8 × Int × Int × Bool × Int := ((Sp.base x.f0).toList, szOf x, m32 x, x.f2, x.f4)
def InRel (W0 : World) (got : List S35) (x : S35) (v i : Value) (wr : World) : Prop := ∃ (j : Nat) (b : Bool), j ≤ got.length ∧ i = .int .i64 j ∧ v = .bool b ∧ Hid (b = true ↔ ∃ y ∈ got.take j, told x = told y) ∧ Below W0.heap.size W0 wr
def LawRel (w : World) (n : Nat) (i : Value) (wr : World) : Prop := ∃ k : Nat, k ≤ n ∧ i = .int .i64 k ∧ Below w.heap.size w wr
theorem info35 : (Try.prog.info? 35).map (fun i => (i.zero, i.size, i.bytes)) = some (some (.agg #[.string ⟨#[]⟩, .int .i64 0, .bool false, .slice none 0 0, .int .i64 0]), 5, 64) := by kernel_rfl
theorem ent_one {w : World} : ∀ p cs, EntK w p cs → ∀ u ∈ cs, u.oneCell' = true := by
  rintro p cs ⟨A, c, rfl, _⟩ u hu
  simp only [List.mem_cons, List.not_mem_nil, or_false] at hu
  rcases hu with rfl | rfl | rfl | rfl | rfl <;> rfl
set_option maxRecDepth 100000 in
set_option maxHeartbeats 8000000 in
theorem law_walk (A1 : Option Addr) (c1 : Nat) (l1 : List S35) (A2 : Option Addr) (c2 : Nat) (l2 : List S35) (w : World) (h1 : ReadsRow (EntK w) 5 w A1 l1.length l1) (hc1 : l1.length ≤ c1) (h2 : ReadsRow (EntK w) 5 w A2 l2.length l2) (hc2 : l2.length ≤ c2) :
    Calls Try.prog 3 #[.slice A1 l1.length c1, .slice A2 l2.length c2] w fun e w' => e = .returned (.bool true) ∧ Below w.heap.size w w' := by
  have H1 := Lib.hid h1
  have H2 := Lib.hid h2
  have HC1 := Lib.hid hc1
  have HC2 := Lib.hid hc2
  clear h1 h2 hc1 hc2
  obtain ⟨k1, r1, f1, g1⟩ := fits_some l1
  obtain ⟨k2, r2, f2, g2⟩ := fits_some l2
  have F1 := Lib.hid f1
  have F2 := Lib.hid f2
  clear f1 f2
  cases r1 with
  | false =>
    go_enter Try.func3, Try.ntmps3
    go_wp2_with (go_at_call 5; refine (laws_zzFits15.calls k1 A1 c1 l1 false _ (ents_C H1.out (Below.refl _ _) (Below.refl _ _)) HC1.out F1.out).mono ?_; rintro e w1 ⟨rfl, hB1⟩)
    go_ret
    exact ⟨rfl, hB1⟩
  | true =>
  cases r2 with
  | false =>
    go_enter Try.func3, Try.ntmps3
    go_wp2_with (first
      | (go_at_call 5; refine (laws_zzFits15.calls k2 A2 c2 l2 false w1 (ents_C H2.out hB1 hB1) HC2.out F2.out).mono ?_; rintro e w2 ⟨rfl, hB2⟩)
      | (go_at_call 5; refine (laws_zzFits15.calls k1 A1 c1 l1 true w (ents_C H1.out (Below.refl _ _) (Below.refl _ _)) HC1.out F1.out).mono ?_; rintro e w1 ⟨rfl, hB1⟩))
    go_ret
    exact ⟨rfl, hB1.trans (hB2.mono hB1.size)⟩
  | true =>
  obtain ⟨n1, s1⟩ := g1 rfl
  obtain ⟨n2, s2⟩ := g2 rfl
  have S1 := Lib.hid s1
  have S2 := Lib.hid s2
  clear g1 g2 n1 n2 s1 s2
  go_enter Try.func3, Try.ntmps3
  go_upto_region 3 with (first
      | (go_at_call 5; refine (laws_zzFits15.calls k2 A2 c2 l2 true w1 (ents_C H2.out hB1 hB1) HC2.out F2.out).mono ?_; rintro e w2 ⟨rfl, hB2⟩; have hB2' := hB1.trans (hB2.mono hB1.size))
      | (go_at_call 5; refine (laws_zzFits15.calls k1 A1 c1 l1 true w (ents_C H1.out (Below.refl _ _) (Below.refl _ _)) HC1.out F1.out).mono ?_; rintro e w1 ⟨rfl, hB1⟩))
  go_wp2_with fail
  refine (listed_any A1 c1 l1 w2 (H1.out.imp_ hB2' (fun p c hp => hp.below hB2')) S1.out).mono ?_
  rintro e w3 ⟨ra, rfl, hla, hB3⟩
  have hB3' := hB2'.trans (hB3.mono hB2'.size)
  cases ra with
  | false =>
    go_wp2_with fail
    go_ret
    exact ⟨rfl, hB3'⟩
  | true =>
  go_wp2_with fail
  refine (listed_any A2 c2 l2 w3 (H2.out.imp_ hB3' (fun p c hp => hp.below hB3')) S2.out).mono ?_
  rintro e w4 ⟨rb, rfl, hlb, hB4⟩
  have hB4' := hB3'.trans (hB4.mono hB3'.size)
  cases rb with
  | false =>
    go_wp2_with fail
    go_ret
    exact ⟨rfl, hB4'⟩
  | true =>
  have n1 : l1.length ≤ 60 := hla (by first | rfl | trivial)
  have n2 : l2.length ≤ 60 := hlb (by first | rfl | trivial)
  clear hla hlb hB1 hB2 hB3 hB4 hB2' hB3' F1 F2
  go_wp2_with fail
  refine (dirs_any A1 c1 l1 A2 c2 l2 w4 (H1.out.imp_ hB4' (fun p c hp => hp.below hB4')) (H2.out.imp_ hB4' (fun p c hp => hp.below hB4')) (by omega) (by omega) (fun x hx => ⟨Nat.le_trans (S1.out x hx).1 (by decide), Nat.le_trans (S1.out x hx).2 (by decide)⟩) (fun x hx => ⟨Nat.le_trans (S2.out x hx).1 (by decide), Nat.le_trans (S2.out x hx).2 (by decide)⟩)).mono ?_
  rintro e w5 ⟨v5, got, rfl, hO5, hM5, hB5⟩
  have hB5' := hB4'.trans (hB5.mono hB4'.size)
  have HO5 := Lib.hid hO5
  have HM5 := Lib.hid hM5
  clear hO5 hM5
  go_wp2_with fail
  refine (dirs_any A1 c1 l1 none 0 [] w5 (H1.out.imp_ hB5' (fun p c hp => hp.below hB5')) ⟨rfl, Nat.zero_le _, fun h => absurd h (Nat.lt_irrefl 0)⟩ (by omega) (Nat.zero_le _) (fun x hx => ⟨Nat.le_trans (S1.out x hx).1 (by decide), Nat.le_trans (S1.out x hx).2 (by decide)⟩) (fun x hx => by cases hx)).mono ?_
  rintro e w6 ⟨v6, alone, rfl, hO6, hM6, hB6⟩
  have hB6' := hB5'.trans (hB6.mono hB5'.size)
  have HM6 := Lib.hid hM6
  have hO5 := HO5.out.below hB6
  obtain ⟨A5, c5, e5, le5, hR5⟩ := hO5.reads
  obtain ⟨A6, c6, e6, le6, hR6⟩ := hO6.reads
  have HR5 := Lib.hid hR5
  have HR6 := Lib.hid hR6
  have hg5 := merged_len HM5.out
  have hg6 := merged_len hM6
  simp only [List.length_nil, Nat.add_zero] at hg6
  clear hM6 hO5 hO6 hR5 hR6
  subst e5 e6
  go_upto_region 6 with fail
  have hBa := (Below.refl w6.heap.size w6).alloc (Nat.le_refl _) (.cells #[] 35)
  have up : ∀ {v : World}, Below w6.heap.size w6 v → Below w.heap.size w v := fun h => hB6'.trans (h.mono hB6'.size)
  have hLit : OwnRow (EntK w) 35 5 (w6.alloc (.cells #[] 35)) w6.heap.size (.slice (some ⟨w6.heap.size, 0, none⟩) 0 0) [] := OwnRow.lit w6 w6.heap.size (Reps.none _ _) (Nat.le_refl _) (by decide)
  have HLIT := Lib.hid hLit
  obtain ⟨L, hL⟩ : ∃ L, l1 ++ l2 = L := ⟨_, rfl⟩
  have hLl : L.length = l1.length + l2.length := by rw [← hL, List.length_append]
  have hLs : ∀ x ∈ L, x.f0.size ≤ 4294967296 := by
    rw [← hL]
    intro x hx
    rcases List.mem_append.1 hx with hx | hx
    · exact Nat.le_trans (S1.out x hx).1 (by decide)
    · exact Nat.le_trans (S2.out x hx).1 (by decide)
  obtain ⟨q1, hq1⟩ := (names_ev L (by omega) hLs).rounds
  obtain ⟨q2, hq2⟩ := (names_ev l1 (by omega) (fun x hx => Nat.le_trans (S1.out x hx).1 (by decide))).rounds
  obtain ⟨N1, hN1⟩ : ∃ N, names [] L = N := ⟨_, rfl⟩
  obtain ⟨N2, hN2⟩ : ∃ N, names [] l1 = N := ⟨_, rfl⟩
  have hc5 := merged_count HM5.out
  have hc6 := merged_count HM6.out
  rw [hL, hN1] at hc5
  rw [List.append_nil, hN2] at hc6
  rw [hN1] at hq1
  rw [hN2] at hq2
  have HQ1 := Lib.hid hq1
  have HQ2 := Lib.hid hq2
  have HL := Lib.hid hL
  have HC5 := Lib.hid hc5
  have HC6 := Lib.hid hc6
  clear hLit hL hLs hq1 hq2 hN1 hN2 hc5 hc6 hLl
  go_upto_block 1 with (first
    | (go_at_call 8; refine (laws_lastNames.calls q2 A1 c1 l1 N2 w9 (ents_C H1.out (up hB9) (up hB9)) HC1.out HQ2.out).mono ?_; rintro e w10 ⟨v10, rfl, hR10, hB10⟩; have hB10' := hB9.trans (hB10.mono hB9.size); obtain ⟨B10, d10, e10⟩ := Go.Proofs.YtfanlhkpblemgaaW.PrintWords.Kd.R_slice hR10; rw [← HC6.out] at e10; subst e10)
    | (go_at_call 8; refine (laws_lastNames.calls q1 A8 c8 L N1 w8 (ents_C hR8 (up hB8) (Below.refl _ _)) le8 HQ1.out).mono ?_; rintro e w9 ⟨v9, rfl, hR9, hB9'⟩; have hB9 := hB8.trans (hB9'.mono hB8.size); obtain ⟨B9, d9, e9⟩ := Go.Proofs.YtfanlhkpblemgaaW.PrintWords.Kd.R_slice hR9; rw [← HC5.out] at e9; subst e9)
    | (at_builtin; refine OwnRow.append_rows (w0 := w6) (R := EntK w) w6.heap.size rfl (.tmp 37) (.tmp 38) 22 35 (.agg #[.string ⟨#[]⟩, .int .i64 0, .bool false, .slice none 0 0, .int .i64 0]) 5 64 rfl Try.underlying22 info35 rfl (by decide) (by decide) v7 l1 l2 A2 l2.length c2 (by simp [Act.eval]) (by simp [Act.eval]) ent_one hO7 (H2.out.imp_ (up hB7) (fun p c hp => hp)) hB7 hB7.size (by omega) ?_; intro v8 w8 hO8 hB8 hg8 hat8; rw [HL.out] at hO8; obtain ⟨A8, c8, e8, le8, hR8⟩ := hO8.reads; subst e8)
    | (at_builtin; refine OwnRow.append_rows (w0 := w6) (R := EntK w) w6.heap.size rfl (.tmp 35) (.tmp 36) 22 35 (.agg #[.string ⟨#[]⟩, .int .i64 0, .bool false, .slice none 0 0, .int .i64 0]) 5 64 rfl Try.underlying22 info35 rfl (by decide) (by decide) (.slice (some ⟨w6.heap.size, 0, none⟩) 0 0) [] l1 A1 l1.length c1 (by simp [Act.eval]) (by simp [Act.eval]) ent_one HLIT.out (H1.out.imp_ (up hBa) (fun p c hp => hp)) hBa hBa.size (by simp only [List.length_nil]; omega) ?_; intro v7 w7 hO7 hB7 hg7 hat7; rw [List.nil_append] at hO7))
  have hsub := merged_in HM5.out HM6.out
  have HSUB := Lib.hid hsub
  clear hsub
  go_loopw [53] (fun i wr => LawRel w6 alone.length i wr) (fun i _ => alone.length - (intOf i).toNat)
  case atStart => exact ⟨0, Nat.zero_le _, rfl, hB10'⟩
  case round =>
    obtain ⟨k, hk, rfl, hB⟩ := hrel
    by_cases hlt : k < alone.length
    · obtain ⟨b, off, rfl, hbl, x0, x1, x2, x3, x4⟩ := told_at HR6.out k hlt
      have y0 := (hB.cell (p := ⟨b, off + k * 5, none⟩) hbl).trans x0
      have y1 := (hB.cell (p := ⟨b, off + k * 5 + 1, none⟩) hbl).trans x1
      have y2 := (hB.cell (p := ⟨b, off + k * 5 + 2, none⟩) hbl).trans x2
      have y3 := (hB.cell (p := ⟨b, off + k * 5 + 3, none⟩) hbl).trans x3
      have y4 := (hB.cell (p := ⟨b, off + k * 5 + 4, none⟩) hbl).trans x4
      have hin : alone[k] ∈ got := HSUB.out _ (List.getElem_mem _)
      obtain ⟨x, hx⟩ : ∃ x, x = alone[k] := ⟨_, rfl⟩
      rw [← hx] at y0 y1 y2 y3 y4 hin
      have HIN := Lib.hid hin
      clear x0 x1 x2 x3 x4 hx hin
      go_upto_region 11 with fail
      have hb0 := (Below.refl wr.heap.size wr).alloc (Nat.le_refl _) (.cells #[.string (Sp.base x.f0), .int .i64 (szOf x), .int .i64 (m32 x), .bool x.f2, .int .i64 x.f4] 29)
      have hn0 := alloc_new wr (.cells #[.string (Sp.base x.f0), .int .i64 (szOf x), .int .i64 (m32 x), .bool x.f2, .int .i64 x.f4] 29)
      have hBw0 := hB.trans (hb0.mono hB.size)
      generalize wr.alloc (.cells #[.string (Sp.base x.f0), .int .i64 (szOf x), .int .i64 (m32 x), .bool x.f2, .int .i64 x.f4] 29) = W0 at *
      have hwz := lt_of_heap hn0
      obtain ⟨pb, hpb⟩ : ∃ pb, wr.heap.size = pb := ⟨_, rfl⟩
      rw [hpb] at hn0 hwz ⊢
      have HN0 := Lib.hid hn0
      have HPB := Lib.hid hpb
      clear y0 y1 y2 y3 y4 hn0 hb0
      go_wp2_with fail
      go_loopw [9, 59] (fun v i w' => InRel W0 got x v i w') (fun _ i _ => got.length - (intOf i).toNat)
      case atStart => exact ⟨0, false, Nat.zero_le _, rfl, rfl, Lib.hid (by simp), Below.refl _ _⟩
      case round =>
        obtain ⟨j, bv, hj, rfl, rfl, HB, hBi⟩ := hrel
        by_cases hjl : j < got.length
        · obtain ⟨gb, goff, rfl, hgl, x0, x1, x2, x3, x4⟩ := told_at HR5.out j hjl
          have hBt := hBw0.trans (hBi.mono hBw0.size)
          have y0 := (hBt.cell (p := ⟨gb, goff + j * 5, none⟩) hgl).trans x0
          have y1 := (hBt.cell (p := ⟨gb, goff + j * 5 + 1, none⟩) hgl).trans x1
          have y2 := (hBt.cell (p := ⟨gb, goff + j * 5 + 2, none⟩) hgl).trans x2
          have y3 := (hBt.cell (p := ⟨gb, goff + j * 5 + 3, none⟩) hgl).trans x3
          have y4 := (hBt.cell (p := ⟨gb, goff + j * 5 + 4, none⟩) hgl).trans x4
          have hstep : ∀ b' : Bool, (b' = true ↔ bv = true ∨ told x = told got[j]) → Hid (b' = true ↔ ∃ y ∈ got.take (j + 1), told x = told y) := fun b' hb' => Lib.hid (by
            rw [hb', HB.out, List.take_succ_eq_append_getElem hjl]
            constructor
            · rintro (⟨y, hy, e⟩ | e)
              · exact ⟨y, List.mem_append_left _ hy, e⟩
              · exact ⟨_, List.mem_append_right _ (List.mem_singleton_self _), e⟩
            · rintro ⟨y, hy, e⟩
              rcases List.mem_append.1 hy with hy | hy
              · exact .inl ⟨y, hy, e⟩
              · exact .inr (by rw [List.mem_singleton] at hy; rw [← hy]; exact e))
          obtain ⟨y, hy⟩ : ∃ y, y = got[j] := ⟨_, rfl⟩
          rw [← hy] at y0 y1 y2 y3 y4 hstep
          have HST := Lib.hid hstep
          clear x0 x1 x2 x3 x4 hy hstep
          go_upto_region 15 with fail
          have ha1 := (Below.refl wr.heap.size wr).alloc (Nat.le_refl _) (.cells #[.string (Sp.base y.f0), .int .i64 (szOf y), .int .i64 (m32 y), .bool y.f2, .int .i64 y.f4] 29)
          have hn1 := alloc_new wr (.cells #[.string (Sp.base y.f0), .int .i64 (szOf y), .int .i64 (m32 y), .bool y.f2, .int .i64 y.f4] 29)
          have hBj := hBi.trans (ha1.mono hBi.size)
          have xk := (hBj.block pb hwz).trans HN0.out
          generalize wr.alloc (.cells #[.string (Sp.base y.f0), .int .i64 (szOf y), .int .i64 (m32 y), .bool y.f2, .int .i64 y.f4] 29) = W1 at *
          have z0 := (cell_of xk 0).trans rfl
          have z1 := (cell_of xk 1).trans rfl
          have z2 := (cell_of xk 2).trans rfl
          have z3 := (cell_of xk 3).trans rfl
          have z4 := (cell_of xk 4).trans rfl
          have t0 := (cell_of hn1 0).trans rfl
          have t1 := (cell_of hn1 1).trans rfl
          have t2 := (cell_of hn1 2).trans rfl
          have t3 := (cell_of hn1 3).trans rfl
          have t4 := (cell_of hn1 4).trans rfl
          have HT : Hid (told x = told y → InRel W0 got x (.bool true) (.int .i64 ((j : Int) + 1)) W1) := Lib.hid (fun e => ⟨j + 1, true, by omega, by go_num, rfl, HST.out true (by simp [e]), hBj⟩)
          have HF : bv = false → Hid (¬ told x = told y → InRel W0 got x (.bool false) (.int .i64 ((j : Int) + 1)) W1) := fun hb => Lib.hid (fun e => ⟨j + 1, false, by omega, by go_num, rfl, HST.out false (by simp [e, hb]), hBj⟩)
          clear y0 y1 y2 y3 y4 ha1 hn1 xk
          cases bv with
          | true =>
            go_wp2_with fail
            exact ⟨⟨j + 1, true, by omega, by go_num, rfl, HST.out true (by simp), hBj⟩, by simp [intOf]; omega⟩
          | false =>
            have HG := HF rfl
            clear HF
            go_wp2_with fail
            all_goals try go_roundw
            all_goals try exact HG.out (by intro e; simp only [told, Prod.mk.injEq] at e; obtain ⟨e0, e1, e2, e3, e4⟩ := e; first | exact absurd e0 ‹_› | exact absurd e1 ‹_› | exact absurd e2 ‹_› | exact absurd e3 ‹_› | exact absurd e4 ‹_›)
            all_goals try (show got.length - (intOf (.int .i64 ((j : Int) + 1))).toNat < got.length - (intOf (.int .i64 (j : Int))).toNat; simp [intOf]; omega)
            all_goals simp
            all_goals first
              | exact ⟨_, _, _, HG.out (by intro e; simp only [told, Prod.mk.injEq] at e; obtain ⟨e0, e1, e2, e3, e4⟩ := e; first | exact absurd e4 ‹_› | exact absurd e3 ‹_› | exact absurd e2 ‹_› | exact absurd e1 ‹_› | exact absurd e0 ‹_›), rfl, rfl, (by and_intros <;> exact Eq.symm (by assumption)), rfl⟩
              | exact ⟨_, _, _, HT.out (by simp only [told, Prod.mk.injEq]; exact ⟨by assumption, by assumption, by assumption, by assumption, by assumption⟩), rfl, rfl, (by and_intros <;> exact Eq.symm (by assumption)), rfl⟩
        · obtain rfl : j = got.length := by omega
          have hbt : bv = true := HB.out.2 ⟨x, by rw [List.take_length]; exact HIN.out, rfl⟩
          subst hbt
          go_wp2_with fail
          exact ⟨⟨k + 1, by omega, by go_num, hBw0.trans (hBi.mono hBw0.size)⟩, by simp [intOf]; omega⟩
    · go_wp2_with fail
      go_ret
      exact ⟨rfl, up hB⟩
end Go.Proofs.Ytfanlhkpblemgaa
