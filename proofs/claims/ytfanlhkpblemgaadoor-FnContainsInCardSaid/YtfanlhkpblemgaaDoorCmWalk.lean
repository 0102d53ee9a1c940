/- Rows of bytes that are read; zzFits9, spec.Holds, the doors. -/
import Derived.Test.YtfanlhkpblemgaaDoorCjWalk
import Derived.Test.YtfanlhkpblemgaaDoorClStr
import Derived.Test.YtfanlhkpblemgaaDoorSt
import Derived.Deep.Matrix
namespace Go.Proofs.YtfanlhkpblemgaaDoor
open Go.ChangeShapes Go.WideShapes Go.ChangeAt Go.RowKit Go.Rd
open Go.Proofs.YtfanlhkpblemgaaDoorW.PrintWords Go.Proofs.YtfanlhkpblemgaaDoorW.PrintLast Go.Proofs.YtfanlhkpblemgaaDoorW.PrintMore
set_option linter.unusedVariables false

/-- A cell that holds a row of bytes. -/
def BytK (w : World) (zs : List Int) (cs : List Value) : Prop := ∃ A c, cs = [.slice A zs.length c] ∧ BytesIn w A zs.length c zs
theorem BytK.below {w w' : World} {zs : List Int} {cs : List Value} (h : BytK w zs cs) (hb : Below w.heap.size w w') : BytK w' zs cs := by
  obtain ⟨A, c, e, hb'⟩ := h
  exact ⟨A, c, e, hb'.below hb⟩
theorem spot_none {w : World} {a : Addr} {v : Value} (h : w.cell? a = some v) : a.spot = none := by
  unfold World.cell? at h
  split at h
  · cases hs : a.spot with
    | none => rfl
    | some s => rw [hs] at h; simp at h
  · cases h
/-- The row at an index. -/
theorem row_at {w0 w : World} {A : Option Addr} {n : Nat} {L : List (List Int)} (h : ReadsRow (BytK w0) 1 w A n L) (k : Nat) (hk : k < L.length) :
    ∃ b off A2 c2, A = some ⟨b, off, none⟩ ∧ b < w.heap.size ∧ w.cell? ⟨b, off + k, none⟩ = some (.slice A2 L[k].length c2) ∧ BytesIn w0 A2 L[k].length c2 L[k] := by
  obtain ⟨ad, rfl, hc⟩ := h.2.2 (by have := h.1; omega)
  obtain ⟨c, hcl, ⟨A2, c2, rfl, hb⟩, hcell⟩ := hc k L[k] (by simp [hk])
  have hx := hcell 0 _ rfl
  obtain ⟨b, off, sp⟩ := ad
  have hs : sp = none := by
    cases sp with
    | none => rfl
    | some s =>
      obtain ⟨c0, hc0, ⟨A0, k0, rfl, _⟩, hcell0⟩ := hc 0 L[0] (by simp [Nat.lt_of_le_of_lt (Nat.zero_le k) hk])
      have hx0 := hcell0 0 _ rfl
      exact absurd (spot_none hx0) (by simp [Addr.add])
  subst hs
  rw [addr_add] at hx
  have e : k * 1 + 0 = k := by omega
  rw [e] at hx
  exact ⟨b, off, A2, c2, rfl, cell_lt hx, hx, hb⟩
/-- Rows of bytes that came in. -/
theorem brows_of {w : World} {A : Option Addr} {len cap : Nat} (h : (A = none ∧ len = 0 ∧ cap = 0) ∨ ∃ (a : Addr) (B : Nat → Option Addr) (L C : Nat → Nat) (Z : Nat → List Int), A = some a ∧ len ≤ cap ∧ cap ≤ maxLen ∧
    ∀ r, r < cap → w.cell? (a.add r) = some (.slice (B r) (L r) (C r)) ∧ L r ≤ C r ∧ C r ≤ maxLen ∧ (Z r).length = C r ∧ (∀ n ∈ Z r, (Lit.int .u8 n).wf = true) ∧ (B r = none → C r = 0) ∧ ∀ a', B r = some a' → ∀ c, c < C r → w.cell? (a'.add c) = some (.int .u8 ((Z r).getD c 0))) :
    ∃ M : List (List Int), ReadsRow (BytK w) 1 w A len M ∧ M.length = len := by
  rcases h with ⟨rfl, rfl, rfl⟩ | ⟨a, B, L, C, Z, rfl, h1, h2, h3⟩
  · exact ⟨[], ⟨rfl, by omega, fun hn => by omega⟩, rfl⟩
  · refine ⟨(List.range len).map (fun r => (Z r).take (L r)), ⟨by simp, by unfold maxLen at h2; omega, fun _ => ⟨a, rfl, fun j p hj => ?_⟩⟩, by simp⟩
    have hjl : j < len := by
      have := (List.getElem?_eq_some_iff.1 hj).1
      simpa using this
    simp only [List.getElem?_map, List.getElem?_range hjl, Option.map_some, Option.some.injEq] at hj
    subst hj
    obtain ⟨g1, g2, g3, g4, g5, g6, g7⟩ := h3 j (by omega)
    have hl : ((Z j).take (L j)).length = L j := by simp; omega
    refine ⟨[.slice (B j) (L j) (C j)], rfl, ⟨B j, C j, by rw [hl], ?_⟩, fun i u hu => ?_⟩
    · rw [hl]
      refine BytesIn.of_row ?_
      cases hB : B j with
      | none =>
        have := g6 hB
        exact .inl ⟨rfl, by omega, this, List.eq_nil_of_length_eq_zero (by omega)⟩
      | some a' => exact .inr ⟨a', rfl, g2, g3, g4, fun i hi => g7 a' hB i (by omega), g5⟩
    · have hi : i = 0 := by
        have := (List.getElem?_eq_some_iff.1 hu).1
        simp at this; omega
      subst hi
      cases hu
      simpa using g1

/-- Some bool, and new memory alone. -/
def SomeBool (w : World) (e : Ending) (w' : World) : Prop := ∃ r : Bool, e = .returned (.bool r) ∧ Below w.heap.size w w'
/-- The counter of a loop. -/
def CountRel (n : Nat) (i : Value) : Prop := ∃ k : Nat, k ≤ n ∧ i = .int .i64 k
set_option maxRecDepth 100000 in
set_option maxHeartbeats 2000000 in
theorem fits9_any (A : Option Addr) (n c : Nat) (L : List (List Int)) (w : World) (h : ReadsRow (BytK w) 1 w A n L) (hl : L.length = n) : Calls Tryd.prog 7 #[.slice A n c] w (SomeBool w) := by
  have HR := Lib.hid h
  have HL := Lib.hid hl
  clear h hl
  by_cases g : n ≤ 2147483647
  rotate_left
  · have g' : 2147483647 < n := by omega
    clear g
    go_enter Tryd.func7, Tryd.ntmps7
    go_wp2
    go_ret
    exact ⟨_, rfl, Below.refl _ _⟩
  go_enter Tryd.func7, Tryd.ntmps7
  go_wp2
  go_loop [10] (fun i => CountRel n i) (fun i => n - (intOf i).toNat)
  case atStart => exact ⟨0, Nat.zero_le _, rfl⟩
  case round =>
    obtain ⟨k, hk, rfl⟩ := hrel
    by_cases hlt : k < n
    · obtain ⟨b, off, A2, c2, rfl, hbl, x0, _⟩ := row_at HR.out k (by have := HL.out; omega)
      obtain ⟨m, hm⟩ : ∃ m, m = (L[k]'(by have := HL.out; omega)).length := ⟨_, rfl⟩
      rw [← hm] at x0
      clear hm
      by_cases g2 : 2147483647 < m
      · have g3 : (2147483647 : Int) < (m : Int) := by omega
        go_wp2
        go_ret
        exact ⟨_, rfl, Below.refl _ _⟩
      · have g3 : ¬ (2147483647 : Int) < (m : Int) := by omega
        go_wp2
        go_round
        case rel => exact ⟨k + 1, by omega, by go_num⟩
        case measure => simp [intOf]; omega
    · go_wp2
      go_ret
      exact ⟨_, rfl, Below.refl _ _⟩

/-- The answer of Holds. -/
def HoldsPost (D s : List Int) (w : World) (e : Ending) (w' : World) : Prop := ∃ r : Bool, e = .returned (.bool r) ∧ (r = true ↔ Occ (D.map toU) (s.map toU)) ∧ Below w.heap.size w w'
def HoldsRel (D s : List Int) (w : World) (i : Value) (wr : World) : Prop := ∃ k : Nat, k ≤ D.length + 1 ∧ i = .int .i64 k ∧ (∀ j, j < k → ¬ OccAt (D.map toU) (s.map toU) j) ∧ Below w.heap.size w wr
set_option maxRecDepth 100000 in
set_option maxHeartbeats 2000000 in
theorem holds_any (A : Option Addr) (c : Nat) (D : List Int) (A2 : Option Addr) (c2 : Nat) (s : List Int) (w : World) (h1 : BytesIn w A D.length c D) (h2 : BytesIn w A2 s.length c2 s) (hD : D.length ≤ 1000000) (hs : s.length ≤ 1000000) :
    Calls Tryd.prog 8 #[.slice A D.length c, .slice A2 s.length c2] w (HoldsPost D s w) := by
  have H1 := Lib.hid h1
  have H2 := Lib.hid h2
  clear h1 h2
  go_enter Tryd.func8, Tryd.ntmps8
  go_wp2
  go_loopw [5] (fun i wr => HoldsRel D s w i wr) (fun i _ => D.length + 1 - (intOf i).toNat)
  case atStart => exact ⟨0, Nat.zero_le _, rfl, fun j hj => by omega, Below.refl _ _⟩
  case round =>
    obtain ⟨k, hk, rfl, hno, hB⟩ := hrel
    have HNO := Lib.hid hno
    clear hno
    by_cases hlt : k + s.length ≤ D.length
    · obtain ⟨A', hm1, hm2⟩ := mid_run' (H1.out.below hB) k s.length ((D.drop k).take s.length) hlt (by
        have e : ((D.drop k).take s.length).length = s.length := by simp; omega
        rw [e, List.take_drop]) (by simp; omega)
      have zA := C_str (c := c - k) hm2
      have zB := C_str (c := c2) (C_of_bytes' (H2.out.below hB))
      have hdr : wr.drewN 1 = wr.drew := rfl
      have zA1 := zA 1
      have zB1 := zB 1
      rw [hdr] at zA1 zB1
      have zA0 := zA 0
      have zB0 := zB 0
      clear zA zB hdr hm2
      have hB' := hB.drew
      by_cases heq : OccAt (D.map toU) (s.map toU) k
      · have e1 : strOfNums ((D.drop k).take s.length) = strOfNums s := by
          have := heq.2
          unfold strOfNums
          congr 1
          simp only [List.length_map] at this
          rw [← List.map_drop, ← List.map_take] at this
          exact congrArg List.toArray this
        rw [e1] at zA1 zA0
        have hoc : Occ (D.map toU) (s.map toU) := ⟨k, heq⟩
        have HOC := Lib.hid hoc
        clear e1 heq hoc
        go_wp2_with fail
        go_region
        all_goals
          go_wp2_with fail
          go_ret
          exact ⟨true, rfl, by simp [HOC.out], hB'⟩
      · have e1 : ((strOfNums ((D.drop k).take s.length)).toList == (strOfNums s).toList) = false := by
          refine beq_eq_false_iff_ne.2 (fun h => heq ?_)
          refine ⟨by simpa using hlt, ?_⟩
          have h' := h
          rw [Lib.toList_data, Lib.toList_data] at h'
          simp only [List.length_map]
          rw [← List.map_drop, ← List.map_take]
          exact h'
        have HNE := Lib.hid heq
        clear heq
        go_wp2_with fail
        go_region
        all_goals
          go_wp2_with fail
          go_roundw
          case rel =>
            refine ⟨k + 1, by omega, by go_num, fun j hj => ?_, hB'⟩
            by_cases e : j = k
            · subst e; exact HNE.out
            · exact HNO.out j (by omega)
          case measure => simp [intOf]; omega
    · have hlt' : ¬ (k : Int) + (s.length : Int) ≤ (D.length : Int) := by omega
      go_wp2_with fail
      go_ret
      refine ⟨false, rfl, ?_, hB⟩
      simp only [Bool.false_eq_true, false_iff]
      rintro ⟨j, hj⟩
      have hj1 := hj.1
      simp only [List.length_map] at hj1
      exact HNO.out j (by omega) hj
end Go.Proofs.YtfanlhkpblemgaaDoor
