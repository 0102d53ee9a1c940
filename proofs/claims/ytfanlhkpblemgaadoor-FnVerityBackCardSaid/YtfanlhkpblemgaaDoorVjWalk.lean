/- FnVerityBack: a new superblock. -/
import Derived.Test.YtfanlhkpblemgaaDoorViWalk
import Derived.Deep.RegionHeld3
import Derived.Laws.CopyOwn
namespace Go.Proofs.YtfanlhkpblemgaaDoor
open Go.RowKit Go.Rd
set_option linter.unusedVariables false
set_option linter.unusedSimpArgs false
open Go.Proofs.YtfanlhkpblemgaaDoorW.PrintWords Go.Proofs.YtfanlhkpblemgaaDoorW.PrintLast Go.Proofs.YtfanlhkpblemgaaDoorW.PrintMore

def z8 : List Int := List.replicate 8 0
/-- The stages of a new superblock. -/
def sb0 (a : Nat → Int) (n : Int) : List Value := sbL [0, 0, 0, 0, 0, 0, 0, 0] 1 1 (uidOf a) z32 4096 4096 n 32 z256
def sb1 (a : Nat → Int) (n : Int) : List Value := sbL sigV 1 1 (uidOf a) z32 4096 4096 n 32 z256
def sb2 (a : Nat → Int) (n : Int) : List Value := sbL sigV 1 1 (uidOf a) algZ 4096 4096 n 32 z256
theorem build_sb (n : Int) (a : Nat → Int) (W : World) : (Instr.build 109 #[(1, .int .u32 1), (2, .int .u32 1), (3, .agg #[.int .u8 (a 0), .int .u8 (a 1), .int .u8 (a 2), .int .u8 (a 3), .int .u8 (a 4), .int .u8 (a 5), .int .u8 (a 6), .int .u8 (a 7), .int .u8 (a 8), .int .u8 (a 9), .int .u8 (a 10), .int .u8 (a 11), .int .u8 (a 12), .int .u8 (a 13), .int .u8 (a 14), .int .u8 (a 15)]), (5, .int .u32 4096), (6, .int .u32 4096), (7, .int .u64 n), (8, .int .u16 32)]).run Tryd.prog W = .ok (.agg (sb0 a n).toArray) W := by kernel_rfl
theorem sb_sig (n : Int) (a : Nat → Int) : (sb0 a n).take 0 ++ Lib.byteCells [118, 101, 114, 105, 116, 121] ++ (sb0 a n).drop (0 + 6) = sb1 a n := by kernel_rfl
theorem sb_alg (n : Int) (a : Nat → Int) : (sb1 a n).take 26 ++ Lib.byteCells [115, 104, 97, 50, 53, 54] ++ (sb1 a n).drop (26 + 6) = sb2 a n := by kernel_rfl
theorem sb_salt (n : Int) (a : Nat → Int) : splice (sb2 a n) 62 (List.replicate 32 (Value.int .u8 0)) = sb2 a n := by kernel_rfl
/-- A region's step that copies, by its run. -/
theorem step_copy {P : Program} {w : World} {ops : Array Oper} {o : Oper} {a : Act} {K : Act → World → Prop} {Q : Exit → Act → World → Prop} {E : Prop} (hgd : o.guard = none) (s x : Operand) (t u : TypeId)
    (ho : o.op = .call { callee := .builtin .copy, args := #[s, x], argTypes := #[t, u] }) (v y : Value) (hs : a.eval s = v) (hx : a.eval x = y) (R : Value → World → Prop)
    (hrun : ∃ v' w', (Builtin.copy_ #[t, u] o.type #[v, y]).run P w = .ok v' w' ∧ R v' w') (h : ∀ v' w', R v' w' → K (a.put o.dst v') w') :
    if Region.wanted o (yielded ops a.tmps) = true then Oper.wp P o a w K Q else E := by
  have hw : Region.wanted o (yielded ops a.tmps) = true := by simp [Region.wanted, hgd]
  rw [if_pos hw]
  obtain ⟨v', w', hr, hR⟩ := hrun
  unfold Oper.wp execOp
  simp only [ho, resolve, invoke, builtin, Sem.run_bind, Sem.run_pure, Result.andThen_ok, List.map_toArray, List.map_cons, List.map_nil, hs, hx, hr]
  exact h v' w' hR


def NewPost (a : Nat → Int) (n : Int) (w : World) (e : Ending) (w' : World) : Prop := ∃ b, e = .returned (.pointer (some ⟨b, 0, none⟩)) ∧ w.heap.size ≤ b ∧ SbIs w' b (uidOf a) n ∧ Below w.heap.size w w'
theorem sb0_size (a : Nat → Int) (n : Int) : (sb0 a n).toArray.size = 318 := by kernel_rfl
theorem sb1_size (a : Nat → Int) (n : Int) : (sb1 a n).toArray.size = 318 := by kernel_rfl
theorem sb2_size (a : Nat → Int) (n : Int) : (sb2 a n).toArray.size = 318 := by kernel_rfl
set_option maxRecDepth 100000 in
set_option maxHeartbeats 2000000 in
theorem new_any (sz : Int) (a : Nat → Int) (w : World) (h0 : 0 ≤ sz) (h1 : sz ≤ 2000000) : Calls Tryd.prog 45 #[.int .u64 sz, uidV a] w (NewPost a (sz / 4096) w) := by
  have hb := build_sb (sz / 4096) a
  obtain ⟨FA, hFA⟩ : ∃ FA, (sb0 a (sz / 4096)).toArray = FA := ⟨_, rfl⟩
  have hz0 := sb0_size a (sz / 4096)
  rw [hFA] at hb hz0
  have HB := Lib.hid hb
  have HFA := Lib.hid hFA
  have HZ0 := Lib.hid hz0
  have HSZ := Lib.hid sizeB
  obtain ⟨Z, hZ, hmk⟩ := zeros_run 32 (by decide)
  have hmk' : ∀ W : World, (Instr.makeSlice 22 (.int .i64 32) (.int .i64 32)).run Tryd.prog W = .ok (.slice (some ⟨W.heap.size, 0, none⟩) 32 32) (W.alloc (.cells Z 5)) := hmk
  clear hb hFA hz0 hmk
  unfold uidV
  go_enter Tryd.func45, Tryd.ntmps45
  go_wp2_with (first
    | (refine wpList_copy_str rfl (.tmp 19) _ 22 9 rfl 5 Tryd.underlying22 HSZ.out (w.heap.size + 1) 26 32 32 ⟨#[115, 104, 97, 50, 53, 54]⟩ ?hd ?hs (sb1 a (sz / 4096)).toArray 109 ?hg ?hle ?hfit ?_; (case hd => rfl); (case hs => rfl); (case hg => exact HG1.out); (case hle => decide); (case hfit => rw [sb1_size]; decide); intro w2 hg2 hw2)
    | (refine wpList_copy_str rfl (.tmp 14) _ 22 9 rfl 5 Tryd.underlying22 HSZ.out (w.heap.size + 1) 0 8 8 ⟨#[118, 101, 114, 105, 116, 121]⟩ ?hd ?hs FA 109 ?hg ?hle ?hfit ?_; (case hd => rfl); (case hs => rfl); (case hg => exact two_new0 w _ _); (case hle => decide); (case hfit => rw [HZ0.out]; decide); intro w1 hg1 hw1; have HG1 : Hid (w1.heap[w.heap.size + 1]? = some (.cells (sb1 a (sz / 4096)).toArray 109 (0, 0))) := Lib.hid (by have h := hg1.out; rw [← HFA.out] at h; rw [h, ← sb_sig (sz / 4096) a]; rfl); clear hg1)
    | (with_reducible refine wpList_build rfl 109 _ rfl _ _ ?hv (HB.out _) ?_; (case hv => simp [Act.eval])))
  have HG2 : w2.heap[w.heap.size + 1]? = some (.cells (sb2 a (sz / 4096)).toArray 109 (0, 0)) := by
    have h := hg2.out
    rw [h, ← sb_alg (sz / 4096) a]
    rfl
  have hBx : Below w.heap.size w w2 := by
    have h2 : Below w.heap.size w ((w.alloc (.cells #[.int .u8 (a 0), .int .u8 (a 1), .int .u8 (a 2), .int .u8 (a 3), .int .u8 (a 4), .int .u8 (a 5), .int .u8 (a 6), .int .u8 (a 7), .int .u8 (a 8), .int .u8 (a 9), .int .u8 (a 10), .int .u8 (a 11), .int .u8 (a 12), .int .u8 (a 13), .int .u8 (a 14), .int .u8 (a 15)] 69)).alloc (.cells FA 109)) := ((Below.refl _ _).alloc (Nat.le_refl _) _).alloc (by simp) _
    have h3 := h2.trans (hw1.below (by simp; omega) (fun k hk e => by omega))
    exact h3.trans (hw2.below h3.size (fun k hk e => by omega))
  clear hg2 hw1 hw2 HG1
  have hBy : Below w.heap.size w (w2.alloc (.cells Z 5)).drew := (hBx.alloc hBx.size _).drew
  have hzb := bytes_zeros w2 32 (by decide) hZ
  have hcp := fun ty => copy_run (P := Tryd.prog) (w := (w2.alloc (.cells Z 5)).drew) (dT := 22) (sT := 22) (elem := 5) ty (w.heap.size + 1) 62 256 256 32 32 ⟨w2.heap.size, 0, none⟩ (sb2 a (sz / 4096)).toArray 109 ((List.replicate 32 (0 : Int)).map (Value.int .u8)) Tryd.underlying22 HSZ.out (alloc_keeps HG2 _) (by simp) (hzb.cells _ rfl) (by rw [sb2_size]; decide) (by intro v hv; obtain ⟨x, _, rfl⟩ := List.mem_map.1 hv; rfl)
  rw [show ((List.replicate 32 (0 : Int)).map (Value.int .u8)) = List.replicate 32 (Value.int .u8 0) by simp, sb_salt] at hcp
  have hcp2 : ∀ ty, ∃ v' w', (Builtin.copy_ #[22, 22] ty #[.slice (some ⟨w.heap.size + 1, 62, none⟩) 256 256, .slice (some ⟨w2.heap.size, 0, none⟩) 32 32]).run Tryd.prog (w2.alloc (.cells Z 5)).drew = .ok v' w' ∧ (v' = .int .i64 32 ∧ w'.heap[w.heap.size + 1]? = some (.cells (sb2 a (sz / 4096)).toArray 109 (0, 0)) ∧ Wrote (fun k => k = w.heap.size + 1) (w2.alloc (.cells Z 5)).drew w') := fun ty => by
    obtain ⟨w', h1, h2, h3, _⟩ := hcp ty
    exact ⟨_, w', h1, by simp, h2, h3⟩
  have HCP := Lib.hid hcp2
  clear hcp hcp2 hzb
  go_region_law (refine step_copy rfl (.tmp 24) (.tmp 25) 22 22 rfl (.slice (some ⟨w.heap.size + 1, 62, none⟩) 256 256) (.slice (some ⟨w2.heap.size, 0, none⟩) 32 32) (by simp [Act.eval, Act.put]) (by simp [Act.eval, Act.put]) _ (HCP.out _) ?_; rintro v3 w3 ⟨rfl, hg3, hw3⟩)
  all_goals
    go_wp2_with fail
    go_ret
    exact ⟨_, rfl, by omega, hg3, hBy.trans (hw3.below hBy.size (fun k hk e => by omega))⟩
end Go.Proofs.YtfanlhkpblemgaaDoor
