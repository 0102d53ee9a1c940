/- FnContainsIn: the law's walk. -/
import Derived.Test.YtfanlhkpblemgaaDoorCoWalk
import Derived.Test.YtfanlhkpblemgaaDoorRows
import Derived.Test.YtfanlhkpblemgaaDoorSe
namespace Go.Proofs.YtfanlhkpblemgaaDoor
open Go.ChangeShapes Go.WideShapes Go.ChangeAt Go.RowKit Go.Rd
open Go.Proofs.YtfanlhkpblemgaaDoorW.PrintWords Go.Proofs.YtfanlhkpblemgaaDoorW.PrintLast Go.Proofs.YtfanlhkpblemgaaDoorW.PrintMore
set_option linter.unusedVariables false

theorem exists_bool (p : Prop) : ∃ c : Bool, c = true ↔ p := ⟨@decide p (Classical.propDecidable p), by simp⟩
def Yes (w : World) (e : Ending) (w' : World) : Prop := e = .returned (.bool true) ∧ Below w.heap.size w w'
/-- What has been seen of what is asked for. -/
def SomeOf (L : List (List Int)) (b : Bool) : Prop := b = true ↔ ∃ s ∈ L, s ≠ []
def HoldsOf (D : List Int) (L : List (List Int)) (b : Bool) : Prop := b = true ↔ ∃ s ∈ L, s ≠ [] ∧ Occ (D.map toU) (s.map toU)
theorem someOf_snoc {L : List (List Int)} {b : Bool} (h : SomeOf L b) (s : List Int) : SomeOf (L ++ [s]) (b || decide (0 < s.length)) := by
  unfold SomeOf at *
  simp only [Bool.or_eq_true, h, decide_eq_true_eq, List.mem_append, List.mem_singleton]
  constructor
  · rintro (⟨t, ht, hne⟩ | h1)
    · exact ⟨t, .inl ht, hne⟩
    · exact ⟨s, .inr rfl, fun e => by subst e; simp at h1⟩
  · rintro ⟨t, ht | rfl, hne⟩
    · exact .inl ⟨t, ht, hne⟩
    · exact .inr (List.length_pos_iff.2 hne)
theorem holdsOf_snoc {D : List Int} {L : List (List Int)} {b c : Bool} (h : HoldsOf D L b) (s : List Int) (hc : 0 < s.length → (c = true ↔ Occ (D.map toU) (s.map toU))) : HoldsOf D (L ++ [s]) (b || (decide (0 < s.length) && c)) := by
  unfold HoldsOf at *
  simp only [Bool.or_eq_true, Bool.and_eq_true, h, decide_eq_true_eq, List.mem_append, List.mem_singleton]
  constructor
  · rintro (⟨t, ht, hne⟩ | ⟨h1, h2⟩)
    · exact ⟨t, .inl ht, hne⟩
    · exact ⟨s, .inr rfl, (fun e => by subst e; simp at h1), (hc h1).1 h2⟩
  · rintro ⟨t, ht | rfl, hne, ho⟩
    · exact .inl ⟨t, ht, hne, ho⟩
    · have := List.length_pos_iff.2 hne
      exact .inr ⟨this, (hc this).2 ho⟩
/-- The states of the law's loops. -/
def OneRel (L : List (List Int)) (i : Value) : Prop := ∃ k : Nat, k ≤ L.length ∧ i = .int .i64 k ∧ Hid (∀ s ∈ L.take k, s.length ≤ 20000)
def TwoRel (w1 : World) (D : List Int) (L : List (List Int)) (vh vs i : Value) (wr : World) : Prop := ∃ (k : Nat) (hb sb : Bool), k ≤ L.length ∧ i = .int .i64 k ∧ vh = .bool hb ∧ vs = .bool sb ∧ Hid (HoldsOf D (L.take k) hb) ∧ Hid (SomeOf (L.take k) sb) ∧ Below w1.heap.size w1 wr

set_option maxRecDepth 100000 in
set_option maxHeartbeats 4000000 in
theorem ci_walk (dA : Option Addr) (dc : Nat) (D : List Int) (A : Option Addr) (c : Nat) (L : List (List Int)) (w : World) (p8 p9 : Addr) (s8 : w.cell? ⟨8, 0, none⟩ = some (.iface 119 (.pointer (some p8)))) (s9 : w.cell? ⟨9, 0, none⟩ = some (.iface 119 (.pointer (some p9))))
    (hlow : 9 < w.heap.size) (hd : BytesIn w dA D.length dc D) (hR : ReadsRow (BytK w) 1 w A L.length L) :
    Calls Tryd.prog 3 #[.slice dA D.length dc, .slice A L.length c] w (Yes w) := by
  have h9 := fits9_any A L.length c L w hR rfl
  have H9 := Lib.hid h9
  have HR := Lib.hid hR
  have HD := Lib.hid hd
  have HS8 := Lib.hid s8
  have HS9 := Lib.hid s9
  clear h9 hR hd s8 s9
  by_cases g0 : D.length ≤ 2147483647
  rotate_left
  · have g : 2147483647 < D.length := by omega
    clear g0 H9
    go_enter Tryd.func3, Tryd.ntmps3
    go_wp2
    go_ret
    exact ⟨rfl, Below.refl _ _⟩
  by_cases g1 : D.length ≤ 20000
  rotate_left
  · have g : 20000 < D.length := by omega
    clear g1
    go_enter Tryd.func3, Tryd.ntmps3
    go_wp2_with fail
    refine H9.out.mono ?_
    rintro e w1 ⟨r, rfl, hB1⟩
    cases r with
    | false => go_wp2; go_ret; exact ⟨rfl, hB1⟩
    | true => go_wp2; go_ret; exact ⟨rfl, hB1⟩
  by_cases g2 : L.length ≤ 10
  rotate_left
  · have g : 10 < L.length := by omega
    clear g2
    go_enter Tryd.func3, Tryd.ntmps3
    go_wp2_with fail
    refine H9.out.mono ?_
    rintro e w1 ⟨r, rfl, hB1⟩
    cases r with
    | false => go_wp2; go_ret; exact ⟨rfl, hB1⟩
    | true => go_wp2; go_ret; exact ⟨rfl, hB1⟩
  clear g0
  go_enter Tryd.func3, Tryd.ntmps3
  go_wp2_with fail
  refine H9.out.mono ?_
  rintro e w1 ⟨r, rfl, hB1⟩
  cases r with
  | false => go_wp2; go_ret; exact ⟨rfl, hB1⟩
  | true =>
    go_wp2_with fail
    go_loop [6, 30] (fun _ i => OneRel L i) (fun _ i => L.length - (intOf i).toNat)
    case atStart => exact ⟨0, Nat.zero_le _, rfl, Lib.hid (fun s hs => by simp at hs)⟩
    case round =>
      obtain ⟨k, hk, rfl, hall⟩ := hrel
      by_cases hlt : k < L.length
      · obtain ⟨b, off, A2, c2, rfl, hbl, x0, _⟩ := row_at HR.out k hlt
        have y0 := (hB1.cell (p := ⟨b, off + k, none⟩) hbl).trans x0
        obtain ⟨m, hm⟩ : ∃ m, m = (L[k]).length := ⟨_, rfl⟩
        rw [← hm] at y0
        have HM := Lib.hid hm
        clear x0 hm
        by_cases g3 : 20000 < m
        · have g4 : (20000 : Int) < (m : Int) := by omega
          go_wp2_with fail
          go_ret
          exact ⟨rfl, hB1⟩
        · have g4 : ¬ (20000 : Int) < (m : Int) := by omega
          go_wp2_with fail
          go_round
          case rel =>
            refine ⟨k + 1, by omega, by go_num, Lib.hid (fun s hs => ?_)⟩
            rw [List.take_succ_eq_append_getElem hlt] at hs
            rcases List.mem_append.1 hs with h1 | h1
            · exact hall.out s h1
            · obtain rfl := List.mem_singleton.1 h1
              have := HM.out; omega
          case measure => simp [intOf]; omega
      · obtain rfl : k = L.length := by omega
        rw [List.take_length] at hall
        go_wp2_with fail
        go_loopw [7, 8, 10, 40] (fun vh vs _ i wr => TwoRel w1 D L vh vs i wr) (fun _ _ _ i _ => L.length - (intOf i).toNat)
        case atStart => exact ⟨0, false, false, Nat.zero_le _, rfl, rfl, rfl, Lib.hid (by simp [HoldsOf]), Lib.hid (by simp [SomeOf]), Below.refl _ _⟩
        case round =>
          obtain ⟨k, hb, sb, hk, rfl, rfl, rfl, hHo, hSo, hB⟩ := hrel
          have hBw := hB1.trans (hB.mono hB1.size)
          by_cases hlt : k < L.length
          · obtain ⟨b, off, A2, c2, rfl, hbl, x0, hby⟩ := row_at HR.out k hlt
            have y0 := (hBw.cell (p := ⟨b, off + k, none⟩) hbl).trans x0
            have hby2 := hby.below hBw
            have hsl := hall.out L[k] (List.getElem_mem _)
            obtain ⟨s, hs⟩ : ∃ s, s = L[k] := ⟨_, rfl⟩
            rw [← hs] at y0 hby2 hsl
            have HEQ := Lib.hid hs
            have hcall := holds_any dA dc D A2 c2 s wr (HD.out.below hBw) hby2 (by omega) (by omega)
            have HC := Lib.hid hcall
            clear x0 hby hs hcall hby2
            by_cases hne : 0 < s.length
            · have hne' : decide (0 < s.length) = true := decide_eq_true hne
              cases hb with
              | true =>
                cases sb with
                | true =>
                  have hS2 := someOf_snoc hSo.out s
                  obtain ⟨cb, hcb⟩ := exists_bool (Occ (D.map toU) (s.map toU))
                  have hH2 := holdsOf_snoc (c := cb) hHo.out s (fun _ => hcb)
                  clear hcb
                  simp only [Bool.true_or, hne', Bool.or_true] at hS2 hH2
                  rw [HEQ.out, ← List.take_succ_eq_append_getElem hlt] at hS2 hH2
                  have HS2 := Lib.hid hS2
                  have HH2 := Lib.hid hH2
                  clear hS2 hH2
                  go_wp2_with fail
                  go_roundw
                  case rel => exact ⟨k + 1, true, true, by omega, by go_num, rfl, rfl, HH2, HS2, hB⟩
                  case measure => simp [intOf]; omega
                | false =>
                  have hS2 := someOf_snoc hSo.out s
                  obtain ⟨cb, hcb⟩ := exists_bool (Occ (D.map toU) (s.map toU))
                  have hH2 := holdsOf_snoc (c := cb) hHo.out s (fun _ => hcb)
                  clear hcb
                  simp only [Bool.true_or, hne', Bool.or_true] at hS2 hH2
                  rw [HEQ.out, ← List.take_succ_eq_append_getElem hlt] at hS2 hH2
                  have HS2 := Lib.hid hS2
                  have HH2 := Lib.hid hH2
                  clear hS2 hH2
                  go_wp2_with fail
                  go_roundw
                  case rel => exact ⟨k + 1, true, true, by omega, by go_num, rfl, rfl, HH2, HS2, hB⟩
                  case measure => simp [intOf]; omega
              | false =>
                cases sb with
                | true =>
                  have hS2 := someOf_snoc hSo.out s
                  simp only [hne', Bool.or_true] at hS2
                  rw [HEQ.out, ← List.take_succ_eq_append_getElem hlt] at hS2
                  have HS2 := Lib.hid hS2
                  clear hS2
                  go_wp2_with fail
                  refine HC.out.mono ?_
                  rintro e w4 ⟨r, rfl, hr, hB4⟩
                  have hH2 := holdsOf_snoc (c := r) hHo.out s (fun _ => hr)
                  simp only [Bool.false_or, hne', Bool.true_and] at hH2
                  rw [HEQ.out, ← List.take_succ_eq_append_getElem hlt] at hH2
                  have HH2 := Lib.hid hH2
                  clear hH2 hr
                  go_wp2_with fail
                  go_roundw
                  case rel => exact ⟨k + 1, r, true, by omega, by go_num, rfl, rfl, HH2, HS2, hB.trans (hB4.mono hB.size)⟩
                  case measure => simp [intOf]; omega
                | false =>
                  have hS2 := someOf_snoc hSo.out s
                  simp only [hne', Bool.or_true] at hS2
                  rw [HEQ.out, ← List.take_succ_eq_append_getElem hlt] at hS2
                  have HS2 := Lib.hid hS2
                  clear hS2
                  go_wp2_with fail
                  refine HC.out.mono ?_
                  rintro e w4 ⟨r, rfl, hr, hB4⟩
                  have hH2 := holdsOf_snoc (c := r) hHo.out s (fun _ => hr)
                  simp only [Bool.false_or, hne', Bool.true_and] at hH2
                  rw [HEQ.out, ← List.take_succ_eq_append_getElem hlt] at hH2
                  have HH2 := Lib.hid hH2
                  clear hH2 hr
                  go_wp2_with fail
                  go_roundw
                  case rel => exact ⟨k + 1, r, true, by omega, by go_num, rfl, rfl, HH2, HS2, hB.trans (hB4.mono hB.size)⟩
                  case measure => simp [intOf]; omega
            · have hne' : decide (0 < s.length) = false := decide_eq_false hne
              have hS2 := someOf_snoc hSo.out s
              have hH2 := holdsOf_snoc (c := false) hHo.out s (fun h => absurd h hne)
              simp only [hne', Bool.or_false, Bool.false_and] at hS2 hH2
              rw [HEQ.out, ← List.take_succ_eq_append_getElem hlt] at hS2 hH2
              have HS2 := Lib.hid hS2
              have HH2 := Lib.hid hH2
              clear hS2 hH2
              cases hb <;> cases sb
              all_goals
                go_wp2_with fail
                go_roundw
                case rel => exact ⟨k + 1, _, _, by omega, by go_num, rfl, rfl, HH2, HS2, hB⟩
                case measure => simp [intOf]; omega
          · obtain rfl : k = L.length := by omega
            rw [List.take_length] at hHo hSo
            have hin := in_any dA dc D A c L wr p8 p9 ((hBw.cell (p := ⟨8, 0, none⟩) (by show 8 < _; omega)).trans HS8.out) ((hBw.cell (p := ⟨9, 0, none⟩) (by show 9 < _; omega)).trans HS9.out) (by have := hBw.size; omega) (HD.out.below hBw) (HR.out.imp_ hBw (fun p c hp => hp.below hBw)) g2 hall.out g1
            have HIN := Lib.hid hin
            clear hin
            go_wp2_with fail
            refine HIN.out.mono ?_
            rintro e w4 ⟨r, rfl, hsay, hB4⟩
            have hfin : (hb = true → r = true) ∧ (sb = false → r = false) := by
              refine ⟨fun h => hsay.1 (hHo.out.1 h), fun h => hsay.2 (fun s hs => ?_)⟩
              by_cases e : s = []
              · exact e
              · have := hSo.out.2 ⟨s, hs, e⟩
                rw [h] at this
                cases this
            have HFIN := Lib.hid hfin
            clear hfin hsay
            have hBz := hBw.trans (hB4.mono hBw.size)
            cases hb <;> cases sb <;> cases r
            all_goals
              first
              | (exact absurd (HFIN.out.1 rfl) (by decide))
              | (exact absurd (HFIN.out.2 rfl) (by decide))
              | (go_wp2_with fail
                 go_ret
                 exact ⟨rfl, hBz⟩)

set_option maxRecDepth 100000 in
theorem open_brows {H : Type} {enc : TypeId × Value → H} {W : World} {base : Nat} {v : Value} {x : DataW H × List MemPlace} (hv : Value.okWide Tryd.prog W .any base 23 v) (h : ∃ m, DataW.trod enc Tryd.prog W 0 (fun _ => true) true m 23 v.cells.toList = some x) :
    ∃ a c, ∃ L : List (List Int), v = .slice a L.length c ∧ ReadsRow (BytK W) 1 W a L.length L := by
  obtain ⟨m, h⟩ := h
  obtain ⟨a, len, c, rfl⟩ := okWide_slice Tryd.underlying23 hv
  have key : (a = none ∧ len = 0 ∧ c = 0) ∨ ∃ (a2 : Addr) (B : Nat → Option Addr) (L C : Nat → Nat) (Z : Nat → List Int), a = some a2 ∧ len ≤ c ∧ c ≤ maxLen ∧
      ∀ r, r < c → W.cell? (a2.add r) = some (.slice (B r) (L r) (C r)) ∧ L r ≤ C r ∧ C r ≤ maxLen ∧ (Z r).length = C r ∧ (∀ n ∈ Z r, (Lit.int .u8 n).wf = true) ∧ (B r = none → C r = 0) ∧ ∀ a', B r = some a' → ∀ k, k < C r → W.cell? (a'.add k) = some (.int .u8 ((Z r).getD k 0)) := by
    rcases Go.Deep.open_int_rows Tryd.underlying23 Tryd.underlying22 Tryd.underlying5 (by kernel_rfl) (by kernel_rfl) h with ⟨hcs, _⟩ | ⟨a2, l2, c2, A2, L2, C2, Z2, hcs, _, h1, h2, _, h3⟩
    · simp [Value.cells] at hcs
      obtain ⟨rfl, rfl, rfl⟩ := hcs
      exact .inl ⟨rfl, rfl, rfl⟩
    · simp [Value.cells] at hcs
      obtain ⟨rfl, rfl, rfl⟩ := hcs
      refine .inr ⟨a2, A2, L2, C2, Z2, rfl, h1, h2, fun r hr => ?_⟩
      obtain ⟨g1, g2, g3, g4, g5, g6, g7⟩ := h3 r hr
      exact ⟨g1, g2, g3, g4, g5, g6, fun a' ha => (g7 a' ha).2⟩
  obtain ⟨L, hL, hl⟩ := brows_of key
  subst hl
  exact ⟨a, c, L, rfl, hL⟩
theorem star_err2 : "*" ++ "errors.errorString" = "*errors.errorString" := by decide
theorem sent_types2 : SentTypes Tryd.prog 61 119 121 9 where
  hi := ⟨_, Tryd.underlying61⟩
  row := fun u h => typeName_ptr_named (nm := "errors.errorString") (by rw [star_err2]; kernel_rfl) (by kernel_rfl) (by decide) u (by rw [star_err2]; exact h)
  hp := Tryd.underlying119
  he := ⟨_, Tryd.underlying121, rfl, rfl⟩
  hs := Tryd.underlying9
  hc := by kernel_rfl
  hcs := by kernel_rfl
theorem ci_main (w : World) (dA : Option Addr) (dm dc : Nat) (zs : List Int) (hd : IsRow .u8 w dA dm dc zs) (A : Option Addr) (c : Nat) (L : List (List Int)) (hR : ReadsRow (BytK w) 1 w A L.length L) (hL : laidMetH Tryd.prog Rows.fnContainsInRow.laid w) :
    Calls Tryd.prog 3 #[.slice dA dm dc, .slice A L.length c] w (Yes w) := by
  obtain ⟨p8, _, s8, _⟩ := sent_of_laid sent_types2 (laid := Rows.fnContainsInRow.laid) hL "io.EOF" [69, 79, 70] 8 (by kernel_rfl) (by kernel_rfl) (.head _)
  obtain ⟨p9, _, s9, h9, _⟩ := sent_of_laid sent_types2 (laid := Rows.fnContainsInRow.laid) hL "io.ErrUnexpectedEOF" [117, 110, 101, 120, 112, 101, 99, 116, 101, 100, 32, 69, 79, 70] 9 (by kernel_rfl) (by kernel_rfl) (.tail _ (.head _))
  have hb := BytesIn.of_row hd
  have hl := hb.len
  generalize zs.take dm = D at hb hl
  subst hl
  exact ci_walk dA dc D A c L w p8 p9 s8 s9 h9 hb hR
end Go.Proofs.YtfanlhkpblemgaaDoor
