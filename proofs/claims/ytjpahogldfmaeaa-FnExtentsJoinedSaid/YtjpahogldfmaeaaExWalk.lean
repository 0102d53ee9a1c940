/- The walks of the extents: what fillExtents, its door and the thin function make of blocks from an offset on. -/
import Derived.Test.YtjpahogldfmaeaaRows
import Derived.Test.YtjpahogldfmaeaaRd
import Derived.Test.YtjpahogldfmaeaaExPlain
import Derived.Deep.AppendLies
import Derived.Laws.MakeOwn
import Derived.Laws.OwnMore
import Derived.WalkSmall
import Derived.WalkKit
import Derived.ProofKit
import Derived.OpenShut
import Derived.Lib.Hide
import Derived.LoopTactic
import Derived.BigQuiet
import Derived.Deep.QuietTactic
import Derived.WalkSpells
namespace Go.Proofs.Ytjpahogldfmaeaa
open Go.ChangeShapes Go.WideShapes Go.ChangeAt Go.RowKit Go.Rd

def FillRel (B g h n : Nat) (start off blocks : Int) (w : World) (v25 : Value) (wr : World) : Prop :=
  ∃ (k : Nat) (xs : List Value), k ≤ n ∧ v25 = .int .i64 k ∧ wr.ownsRow B 48 4 (.slice (some ⟨g, 0, none⟩) n n) n xs ∧ Wrote (fun b => b = g ∨ b = h) w wr ∧ Hid (xs.take (k * 4) = row4 start off blocks k)

set_option maxHeartbeats 1000000 in
theorem fill_any (B n g h : Nat) (start off blocks : Int) (w : World) (hn : n ≤ 340) (hgh : g ≠ h)
   (h0 : 0 ≤ off) (_h2 : blocks ≤ 2147483648) (h3 : 0 ≤ start) (h4 : start + blocks ≤ 4294967295) (h5 : Hid (off + ((n : Int) - 1) * 32768 < blocks))
   (xs : List Value) (hown : w.ownsRow B 48 4 (.slice (some ⟨g, 0, none⟩) n n) n xs)
   (hh : w.heap[h]? = some (.cells #[.int .u16 0, .int .u16 0, .int .u16 0, .int .u16 0, .int .u32 0] 50 (0, 0))) :
    Calls Try.prog 21 #[.pointer (some ⟨h, 0, none⟩), .slice (some ⟨g, 0, none⟩) n n, .int .u32 start, .int .u32 off, .int .u32 blocks] w fun e w' =>
      e = .returned (.tuple #[]) ∧ w'.ownsRow B 48 4 (.slice (some ⟨g, 0, none⟩) n n) n (row4 start off blocks n) ∧ Wrote (fun b => b = g ∨ b = h) w w' := by
  have c0 := cell_of hh 0
  have c1 := cell_of hh 1
  have c2 := cell_of hh 2
  have c3 := cell_of hh 3
  have c4 := cell_of hh 4
  simp only [List.getElem?_toArray, List.getElem?_cons_zero, List.getElem?_cons_succ] at c0 c1 c2 c3 c4
  have f0 := free_of hh 0
  have f1 := free_of hh 1
  have f2 := free_of hh 2
  have f3 := free_of hh 3
  have f4 := free_of hh 4
  clear hh
  go_enter Try.func21, Try.ntmps21
  go_wp2
  go_loopw [25] (fun v25 wr => FillRel B g h n start off blocks w v25 wr) (fun v25 _ => n - (intOf v25).toNat)
  case atStart =>
    refine ⟨0, xs, by omega, rfl, ?_, ?_, Lib.hid (by simp [row4])⟩
    · repeat refine ownsRow_setCell_other ?_ (by simpa [Value.ownBlock] using hgh) _
      exact hown
    · repeat refine Wrote.setCell ?_ (fun _ => .inr rfl) _
      exact Wrote.refl _ _
  case round =>
    clear hown
    obtain ⟨k, xs, hk, rfl, hown, ht, H⟩ := hrel
    by_cases hlt : k < n
    · have hb1 : off + (k : Int) * 32768 < blocks := eB_lt hlt h5.out
      have hx : xs.length = n * 4 := hown.1
      have d0 : ∃ v, wr.cell? ⟨g, k * 4, none⟩ = some v := ⟨_, (hown.cellAt (k * 4) (by omega)).trans (List.getElem?_eq_getElem (by omega))⟩
      have d1 : ∃ v, wr.cell? ⟨g, k * 4 + 1, none⟩ = some v := ⟨_, (hown.cellAt (k * 4 + 1) (by omega)).trans (List.getElem?_eq_getElem (by omega))⟩
      have d2 : ∃ v, wr.cell? ⟨g, k * 4 + 2, none⟩ = some v := ⟨_, (hown.cellAt (k * 4 + 2) (by omega)).trans (List.getElem?_eq_getElem (by omega))⟩
      have d3 : ∃ v, wr.cell? ⟨g, k * 4 + 3, none⟩ = some v := ⟨_, (hown.cellAt (k * 4 + 3) (by omega)).trans (List.getElem?_eq_getElem (by omega))⟩
      obtain ⟨e0, d0⟩ := d0
      obtain ⟨e1, d1⟩ := d1
      obtain ⟨e2, d2⟩ := d2
      obtain ⟨e3, d3⟩ := d3
      have g0 := hown.frozenAt (k * 4)
      have g1 := hown.frozenAt (k * 4 + 1)
      have g2 := hown.frozenAt (k * 4 + 2)
      have g3 := hown.frozenAt (k * 4 + 3)
      have HX := Lib.hid hx
      clear hx
      go_wp2
      all_goals
        go_roundw
        case rel =>
          refine ⟨k + 1, _, by omega, by go_num, ((((hown.stored _ _).1.stored _ _).1.stored _ _).1.stored _ _).1, ?_, Lib.hid ?_⟩
          · repeat refine Wrote.setCell ?_ (fun _ => .inl rfl) _
            exact ht
          · rw [set4_take _ _ _ _ (by have := HX.out; omega), H.out]
            first | exact (row4_big (by assumption)).symm | exact (row4_small (by assumption)).symm
        case measure => simp [intOf]; omega
    · obtain rfl : k = n := by omega
      have hxs : xs = row4 start off blocks k := by
        rw [← H.out, List.take_of_length_le (by have := hown.1; omega)]
      have HX := Lib.hid hxs
      clear hxs H
      go_wp2
      go_end0
      exact ⟨rfl, HX.out ▸ hown, ht⟩

theorem Try.info48 : (Try.prog.info? 48).map (fun i => (i.zero, i.size, i.bytes)) = some (some (.agg #[.int .u32 0, .int .u16 0, .int .u16 0, .int .u32 0]), 4, 12) := by kernel_rfl

set_option maxHeartbeats 1000000 in
theorem door_ext (n : Nat) (start off blocks : Int) (w : World) (hn : n ≤ 340)
   (h0 : 0 ≤ off) (h2 : blocks ≤ 2147483648) (h3 : 0 ≤ start) (h4 : start + blocks ≤ 4294967295) (h5 : Hid (off + ((n : Int) - 1) * 32768 < blocks)) :
    Calls Try.prog 17 #[.int .i64 n, .int .u32 start, .int .u32 off, .int .u32 blocks] w fun e w' =>
      ∃ g, e = .returned (.slice (some ⟨g, 0, none⟩) n n) ∧ w'.ownsRow w.heap.size 48 4 (.slice (some ⟨g, 0, none⟩) n n) n (row4 start off blocks n) ∧ Below w.heap.size w w' := by
  obtain ⟨i0, hi, hz0, hz1, hz2⟩ := info_parts Try.info48
  obtain ⟨Z, _, hZ, hmk⟩ := make_run Try.underlying45 hi hz0 n (by rw [hz2]; omega) (by unfold maxLen; omega)
  rw [hz1] at hZ
  have HZ := Lib.hid hZ
  clear hZ
  go_enter Try.func17, Try.ntmps17
  go_wp2_with fail
  refine (fill_any w.heap.size n (w.heap.size + 1) w.heap.size start off blocks _ hn (by omega) h0 h2 h3 h4 h5 Z.toList ?ho ?hh).mono ?_
  case ho => simpa using World.ownsRow_lit (w.alloc _) Z n (by simp) (by unfold maxLen; omega) HZ.out
  case hh => exact alloc_keeps (alloc_new _ _) _
  rintro e w' ⟨rfl, hown1, ht⟩
  go_wp2
  go_ret
  refine ⟨_, rfl, hown1, ?_⟩
  refine Below.trans (b := _) (((Below.refl _ _).alloc (Nat.le_refl _) _).alloc (by simp) _) (ht.below (by simp; omega) (by omega))


theorem Try.info41 : (Try.prog.info? 41).map (fun i => (i.zero, i.size, i.bytes)) = some (some (.agg #[.int .u32 0, .int .u16 0, .int .u32 0]), 3, 12) := by kernel_rfl

def CopyRel (B n : Nat) (start off blocks : Int) (w : World) (v9 v45 : Value) (wr : World) : Prop :=
  ∃ k : Nat, k ≤ n ∧ v45 = .int .i64 k ∧ wr.ownsRow B 41 3 v9 k (row3 start off blocks k) ∧ Below B w wr

set_option maxHeartbeats 1000000 in
theorem impl_ext (n : Nat) (start off blocks : Int) (w : World) (hn0 : 1 ≤ n) (hn : n ≤ 340)
   (h0 : 0 ≤ off) (h1 : off < blocks) (h2 : blocks ≤ 2147483648) (h3 : 0 ≤ start) (h4 : start + blocks ≤ 4294967295) (hq : Hid ((n : Int) = (blocks - off + 32767) / 32768)) :
    Calls Try.prog 12 #[.int .i64 n, .int .u32 start, .int .u32 off, .int .u32 blocks] w fun e w' =>
      ∃ v, e = .returned v ∧ w'.ownsRow w.heap.size 41 3 v n (row3 start off blocks n) ∧ Below w.heap.size w w' := by
  obtain ⟨i0, hi, hz0, hz1, hz2⟩ := info_parts Try.info41
  have t1 : ((n : Int) != (blocks - off + 32767) / 32768) = false := by simp; exact hq.out
  have hb := Lib.hid (eN_bounds h1 hq.out).2.1
  have hnn : ¬ ((n : Int) < 1) := by omega
  have hbl : ¬ (2147483648 < blocks) := by omega
  have hn3 : ¬ (340 < (n : Int)) := by omega
  go_enter Try.func12, Try.ntmps12
  go_wp2_with (go_at_call 17; refine (door_ext n _ _ _ _ hn h0 h2 h3 h4 hb).mono ?_; rintro e w1 ⟨g, rfl, hown1, hb1⟩)
  go_loopw [9, 45] (fun v9 v45 wr => CopyRel w1.heap.size n start off blocks w1 v9 v45 wr) (fun _ v45 _ => n - (intOf v45).toNat)
  case atStart => exact ⟨0, by omega, rfl, World.ownsRow_nil _ _ _ _, Below.refl _ _⟩
  case round =>
    obtain ⟨k, hk, rfl, hown, hbk⟩ := hrel
    by_cases hlt : k < n
    · have hg : g < w1.heap.size := (hown1.lt g rfl).2
      obtain ⟨q0, q1, q2, q3⟩ := row4_at start off blocks k n hlt
      have d0 := (hbk.cell (p := ⟨g, k * 4, none⟩) hg).trans ((hown1.cellAt (k * 4) (by omega)).trans q0)
      have d1 := (hbk.cell (p := ⟨g, k * 4 + 1, none⟩) hg).trans ((hown1.cellAt (k * 4 + 1) (by omega)).trans q1)
      have d2 := (hbk.cell (p := ⟨g, k * 4 + 2, none⟩) hg).trans ((hown1.cellAt (k * 4 + 2) (by omega)).trans q2)
      have d3 := (hbk.cell (p := ⟨g, k * 4 + 3, none⟩) hg).trans ((hown1.cellAt (k * 4 + 3) (by omega)).trans q3)
      clear q0 q1 q2 q3
      go_wp2_with (at_builtin; refine wpList_append_own _ rfl _ _ 37 rfl w1.heap.size 41 i0 _ 3 12 Try.underlying37 hi hz0 hz1 hz2 rfl (by decide) _ _ _ rfl ((hown.alloc _).alloc _) ⟨wr.heap.size + 1, 0, none⟩ 1 1 [.int .u32 (eB off k), .int .u16 (eL off blocks k), .int .u32 (start + eB off k)] rfl rfl (cells_new _ _ _ _ (by simp) _ rfl) (by intro u hu; simp at hu; rcases hu with rfl | rfl | rfl <;> rfl) (by unfold maxLen; omega) (by omega) (by have := hbk.size; simp; omega) ?_; intro v' w2 hown2 hgrow2 _)
      go_roundw
      case rel => exact ⟨k + 1, by omega, by go_num, hown2, ((hbk.alloc hbk.size _).alloc (by have := hbk.size; simp; omega) _).grown hgrow2 (by have := hbk.size; simp; omega) (fun b hb => (hown.lt b hb).1)⟩
      case measure => simp [intOf]; omega
    · obtain rfl : k = n := by omega
      go_wp2
      go_ret
      exact ⟨_, rfl, row_le hown hb1.size, hb1.trans (hbk.mono hb1.size)⟩


end Go.Proofs.Ytjpahogldfmaeaa
