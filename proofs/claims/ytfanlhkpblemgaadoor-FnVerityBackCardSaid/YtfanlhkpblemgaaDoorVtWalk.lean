/- FnVerityBack: the law, for any arguments. -/
import Derived.Test.YtfanlhkpblemgaaDoorVsWalk
import Derived.Test.YtfanlhkpblemgaaDoorSt
import Derived.Test.YtfanlhkpblemgaaDoorRows
namespace Go.Proofs.YtfanlhkpblemgaaDoor
open Go.RowKit Go.Rd Go.ChangeShapes Go.WideShapes
set_option linter.unusedVariables false
set_option linter.unusedSimpArgs false
open Go.Proofs.YtfanlhkpblemgaaDoorW.PrintWords Go.Proofs.YtfanlhkpblemgaaDoorW.PrintLast Go.Proofs.YtfanlhkpblemgaaDoorW.PrintMore

theorem dig_struct : StructOf Tryd.prog 38 [.num .u64, .num .u64, .num .u64, .num .u64] where
  fs := by
    refine ⟨_, Tryd.underlying38, rfl, fun i k f hk hf => ?_⟩
    have h36 : KdOf Tryd.prog 36 (.num .u64) := ⟨Tryd.underlying36, by kernel_rfl⟩
    rcases i with _ | _ | _ | _ | i
    · cases hk; cases hf; exact ⟨h36, rfl⟩
    · cases hk; cases hf; exact ⟨h36, rfl⟩
    · cases hk; cases hf; exact ⟨h36, rfl⟩
    · cases hk; cases hf; exact ⟨h36, rfl⟩
    · simp at hk
  cells := by kernel_rfl
theorem wf_u64 {c : Int} (h : (Lit.int .u64 c).wf = true) : InU64 c := by
  have : 0 ≤ c ∧ c ≤ 18446744073709551615 := by simpa [Lit.wf, IntKind.min, IntKind.max, IntKind.bits, IntKind.signed] using h
  exact ⟨this.1, by omega⟩
set_option maxRecDepth 100000 in
theorem open_dig {H : Type} {enc : TypeId × Value → H} {W : World} {base : Nat} {v : Value} {x : DataW H × List MemPlace} (hv : Value.okWide Tryd.prog W .any base 38 v) (h : ∃ m, DataW.trod enc Tryd.prog W 0 (fun _ => true) true m 38 v.cells.toList = some x) :
    ∃ Wd : Nat → Int, v = wordV Wd ∧ ∀ i, i < 4 → InU64 (Wd i) := by
  obtain ⟨m, h⟩ := h
  obtain ⟨hl, hc⟩ := struct_is dig_struct h
  obtain ⟨v0, h0, n0, rfl, w0⟩ := hc 0 _ rfl
  obtain ⟨v1, h1, n1, rfl, w1⟩ := hc 1 _ rfl
  obtain ⟨v2, h2, n2, rfl, w2⟩ := hc 2 _ rfl
  obtain ⟨v3, h3, n3, rfl, w3⟩ := hc 3 _ rfl
  have hcs : v.cells.toList = [.int .u64 n0, .int .u64 n1, .int .u64 n2, .int .u64 n3] := by
    generalize v.cells.toList = L at hl h0 h1 h2 h3
    match L, hl with
    | [a, b, c, d], _ => simp at h0 h1 h2 h3; subst h0; subst h1; subst h2; subst h3; rfl
  refine ⟨fun i => if i = 0 then n0 else if i = 1 then n1 else if i = 2 then n2 else n3, ?_, fun i hi => ?_⟩
  · cases v with
    | agg cs =>
      obtain ⟨l⟩ := cs
      have hcs' : l = [.int .u64 n0, .int .u64 n1, .int .u64 n2, .int .u64 n3] := hcs
      subst hcs'
      rfl
    | _ => exact absurd (congrArg List.length hcs) (by simp [Value.cells])
  · rcases i with _ | _ | _ | _ | i
    · exact wf_u64 w0
    · exact wf_u64 w1
    · exact wf_u64 w2
    · exact wf_u64 w3
    · omega

set_option maxRecDepth 100000 in
set_option maxHeartbeats 2000000 in
theorem vb_main (w : World) (W : Nat → Int) (hW : ∀ i, i < 4 → InU64 (W i)) (Au : Option Addr) (nu cu : Nat) (zu : List Int) (hru : IsRow .u8 w Au nu cu zu) (A : Option Addr) (n c : Nat) (zs : List Int) (hr : IsRow .u8 w A n c zs) (hL : laidMetH Tryd.prog Rows.fnVerityBackRow.laid w) :
    Calls Tryd.prog 6 #[wordV W, .slice Au nu cu, .slice A n c] w fun e w' => e = .returned (.bool true) ∧ Below w.heap.size w w' := by
  clear hL
  have hU := BytesIn.of_row hru
  have hB := BytesIn.of_row hr
  clear hru hr
  have hbx : Below w.heap.size w (w.alloc (.cells #[.int .u64 (W 0), .int .u64 (W 1), .int .u64 (W 2), .int .u64 (W 3)] 38)) := (Below.refl _ _).alloc (Nat.le_refl _) _
  have HBX := Lib.hid hbx
  clear hbx
  by_cases h1 : 2147483647 < nu
  · have g1 : decide ((2147483647 : Int) < (nu : Int)) = true := decide_eq_true (by omega)
    clear hU hB hW
    unfold wordV DigCells
    go_enter Tryd.func6, Tryd.ntmps6
    go_wp2
    go_ret
    exact ⟨rfl, HBX.out⟩
  have g1 : decide ((2147483647 : Int) < (nu : Int)) = false := decide_eq_false (by omega)
  by_cases h2 : 2147483647 < n
  · have g2 : decide ((2147483647 : Int) < (n : Int)) = true := decide_eq_true (by omega)
    clear hU hB hW h1
    unfold wordV DigCells
    go_enter Tryd.func6, Tryd.ntmps6
    go_wp2
    go_ret
    exact ⟨rfl, HBX.out⟩
  have g2 : decide ((2147483647 : Int) < (n : Int)) = false := decide_eq_false (by omega)
  by_cases h3 : n ≤ 1228800
  rotate_left
  · have hfa := fun wx => fair_any A n c false (decide_eq_false (by omega)) wx
    have HFA := Lib.hid hfa
    clear hfa hU hB hW h1 h2 h3
    unfold wordV DigCells
    go_enter Tryd.func6, Tryd.ntmps6
    go_wp2_with (go_at_call 16; refine (HFA.out _).mono ?_; rintro e w2 ⟨rfl, h2⟩; have HB2 := HBX.out; rw [← h2] at HB2; clear h2)
    go_ret
    exact ⟨rfl, HB2⟩
  have hfa := fun wx => fair_any A n c true (decide_eq_true (by omega)) wx
  have HFA := Lib.hid hfa
  clear hfa
  by_cases h4 : 0 < n ∧ n % 4096 = 0
  rotate_left
  · have hwh : ∀ wx, Calls Tryd.prog 17 #[.slice A n c] wx fun e w' => e = .returned (.bool false) ∧ w' = wx := fun wx => by
      rcases Nat.eq_zero_or_pos n with rfl | hp
      · exact whole_none A c wx
      · exact whole_any A n c false hp (beq_eq_false_iff_ne.2 (by omega)) wx
    have HWH := Lib.hid hwh
    clear hwh hU hB hW h1 h2 h3 h4
    unfold wordV DigCells
    go_enter Tryd.func6, Tryd.ntmps6
    go_wp2_with (first
      | (go_at_call 17; refine (HWH.out _).mono ?_; rintro e w3 ⟨rfl, h3⟩; have HB3 := HB2; rw [← h3] at HB3; clear h3)
      | (go_at_call 16; refine (HFA.out _).mono ?_; rintro e w2 ⟨rfl, h2⟩; have HB2 := HBX.out; rw [← h2] at HB2; clear h2))
    go_ret
    exact ⟨rfl, HB3⟩
  by_cases h5 : nu ≤ 100
  rotate_left
  · have g3 : decide ((100 : Int) < (nu : Int)) = true := decide_eq_true (by omega)
    have hwh := fun wx => whole_any A n c true h4.1 (beq_iff_eq.2 (by omega)) wx
    have HWH := Lib.hid hwh
    clear hwh hU hB hW h1 h2 h3 h4 h5
    unfold wordV DigCells
    go_enter Tryd.func6, Tryd.ntmps6
    go_wp2_with (first
      | (go_at_call 17; refine (HWH.out _).mono ?_; rintro e w3 ⟨rfl, h3⟩; have HB3 := HB2; rw [← h3] at HB3; clear h3)
      | (go_at_call 16; refine (HFA.out _).mono ?_; rintro e w2 ⟨rfl, h2⟩; have HB2 := HBX.out; rw [← h2] at HB2; clear h2))
    go_ret
    exact ⟨rfl, HB3⟩
  have hlen := hB.len
  exact vb_walk W hW Au nu cu _ A n c _ w hU h5 hB ⟨by rw [hlen]; exact h4.2, by rw [hlen]; omega, by rw [hlen]; omega⟩
end Go.Proofs.YtfanlhkpblemgaaDoor
