/- FnVerityBack: the door that reads. -/
import Derived.Test.YtfanlhkpblemgaaDoorVpWalk
import Derived.StillTailTactics
namespace Go.Proofs.YtfanlhkpblemgaaDoor
open Go.RowKit Go.Rd
set_option linter.unusedVariables false
set_option linter.unusedSimpArgs false
open Go.Proofs.YtfanlhkpblemgaaDoorW.PrintWords Go.Proofs.YtfanlhkpblemgaaDoorW.PrintLast Go.Proofs.YtfanlhkpblemgaaDoorW.PrintMore

/-- What the door tells. -/
def verL (root salt alg : ByteArray) (n : Int) : Array Value := #[.string root, .string salt, .string alg, .int .u32 4096, .int .u32 4096, .int .u64 n, .int .u32 1, .int .i64 n]
def VerPost (root : ByteArray) (n : Int) (w : World) (e : Ending) (w' : World) : Prop := e = .returned (.tuple #[.agg (verL root (hexS z32) (strOfNums algV) n), .int .i64 0]) ∧ Below w.heap.size w w'
theorem set_other {W : World} {r p : Nat} (hne : p ≠ r) (o : Nat) (v : Value) (j : Nat) : (W.setCell ⟨r, o, none⟩ v).cell? ⟨p, j, none⟩ = W.cell? ⟨p, j, none⟩ :=
  World.cell?_of_block (a := ⟨p, j, none⟩) (Below.heap_setCell _ _ _ _ hne)
theorem drew_cell (W : World) (a : Addr) : W.drew.cell? a = W.cell? a := rfl
theorem kept8 {W : World} {r p : Nat} (hne : p ≠ r) (v0 v1 v2 v3 v4 v5 v6 v7 : Value) (j : Nat) : ((((((((W.setCell ⟨r, 0, none⟩ v0).setCell ⟨r, 1, none⟩ v1).setCell ⟨r, 2, none⟩ v2).setCell ⟨r, 3, none⟩ v3).setCell ⟨r, 4, none⟩ v4).setCell ⟨r, 5, none⟩ v5).setCell ⟨r, 6, none⟩ v6).setCell ⟨r, 7, none⟩ v7).drew.cell? ⟨p, j, none⟩ = W.cell? ⟨p, j, none⟩ := by
  rw [drew_cell, set_other hne, set_other hne, set_other hne, set_other hne, set_other hne, set_other hne, set_other hne, set_other hne]
set_option maxRecDepth 100000 in
set_option maxHeartbeats 4000000 in
theorem verread_any (W : Nat → Int) (hW : ∀ i, i < 4 → InU64 (W i)) (A : Option Addr) (m c : Nat) (a : Nat → Int) (n : Int) (R : List Int) (w : World) (hB : BytesIn w A (4096 + m) c (superB (uidOf a) n ++ R)) (hm : 4096 ≤ m) (hmx : m ≤ 100000) (hn : 0 ≤ n ∧ n ≤ 300) (hu : Fit8 (uidOf a)) :
    Calls Tryd.prog 22 #[wordV W, .slice A (4096 + m) c] w (VerPost (hexS (digest W (z32 ++ ((superB (uidOf a) n ++ R).drop 4096).take 4096))) n w) := by
  obtain ⟨len, hlen⟩ : ∃ len, 4096 + m = len := ⟨_, rfl⟩
  have hln : len ≤ 10000000 := by omega
  obtain ⟨L, hL⟩ : ∃ L, superB (uidOf a) n ++ R = L := ⟨_, rfl⟩
  rw [hL, hlen] at hB
  obtain ⟨rt, hrt⟩ : ∃ rt, hexS (digest W (z32 ++ ((superB (uidOf a) n ++ R).drop 4096).take 4096)) = rt := ⟨_, rfl⟩
  have hr := fun (W1 : World) (A1 : Option Addr) (c1 b2 : Nat) (h1 : BytesIn W1 A1 len c1 L) (h2 : WordsAt W1 b2 W) => read_any A1 m c1 a n R b2 W W1 (by rw [hlen, hL]; exact h1) h2 hm hmx hn hu
  rw [hrt] at hr ⊢
  rw [hlen] at hr ⊢
  unfold ReadPost at hr
  obtain ⟨sl, hsl⟩ : ∃ sl, hexS z32 = sl := ⟨_, rfl⟩
  obtain ⟨al, hal⟩ : ∃ al, strOfNums algV = al := ⟨_, rfl⟩
  unfold VerPost
  rw [hsl, hal] at hr ⊢
  have HR := Lib.hid hr
  obtain ⟨W0, hW0⟩ : ∃ W0, (w.alloc (.cells #[.int .u64 (W 0), .int .u64 (W 1), .int .u64 (W 2), .int .u64 (W 3)] 38)).alloc (.cells #[.string ⟨#[]⟩, .string ⟨#[]⟩, .string ⟨#[]⟩, .int .u32 0, .int .u32 0, .int .u64 0, .int .u32 0, .int .i64 0] 46) = W0 := ⟨_, rfl⟩
  have hb0 : Below w.heap.size w W0 := by rw [← hW0]; exact two_below w _ _
  have hbx : W0.heap[w.heap.size]? = some (.cells (DigCells W) 38 (0, 0)) := by rw [← hW0]; exact alloc_keeps (alloc_new w _) _
  have hrx : W0.heap[w.heap.size + 1]? = some (.cells #[.string ⟨#[]⟩, .string ⟨#[]⟩, .string ⟨#[]⟩, .int .u32 0, .int .u32 0, .int .u64 0, .int .u32 0, .int .i64 0] 46 (0, 0)) := by rw [← hW0]; exact two_new0 w _ _
  have hzz : W0.heap.size = w.heap.size + 2 := by rw [← hW0]; simp
  have HZZ := Lib.hid hzz
  have HRUN := Lib.hid (dup_run (hB.below hb0) hln)
  have HX := Lib.hid (fun wx (h : Below W0.heap.size W0 wx) => dig_cells hbx h)
  have HRX := Lib.hid (fun (wx : World) (h : Below W0.heap.size W0 wx) => (h.block (w.heap.size + 1) (lt_of_heap hrx)).trans hrx)
  have HWD := Lib.hid hW
  clear hr hL hlen hrt hsl hal hm hmx hn hu hW hbx hrx hzz hB hln
  unfold wordV DigCells
  go_enter Tryd.func22, Tryd.ntmps22
  go_wp2_with fail
  clear hW0
  obtain ⟨x0, x1, x2, x3⟩ := HX.out W0 (Below.refl _ _)
  go_region_held3 (fun w' => w'.cell? ⟨w.heap.size, 0, none⟩ = some (.int .u64 (W 0)) ∧ w'.cell? ⟨w.heap.size, 1, none⟩ = some (.int .u64 (W 1)) ∧ w'.cell? ⟨w.heap.size, 2, none⟩ = some (.int .u64 (W 2)) ∧ w'.cell? ⟨w.heap.size, 3, none⟩ = some (.int .u64 (W 3))) (first | go_keep | (go_split_ands; refine ⟨?_, ?_, ?_, ?_⟩ <;> assumption)) (first
    | (go_at_call 39; refine (HR.out w2 A1 c1 b2 (hby1.below hB2) hWA).mono ?_; rintro e w3 ⟨p, rfl, hp3, hI3, hB3⟩; have hB13 := hB12.trans (hB3.mono hB12.size); obtain ⟨y0, y1, y2, y3⟩ := HX.out w3 hB13)
    | (go_at_call 36; refine (digest_any W HWD.out w1).mono ?_; rintro e w2 ⟨b2, rfl, hb2, hWA, hB2⟩; have hB12 := hB1.trans (hB2.mono hB1.size); obtain ⟨y0, y1, y2, y3⟩ := HX.out w2 hB12)
    | (refine step_append_run rfl (.const (.slice none 0 0)) (.tmp 9) 22 rfl (.slice none 0 0) (.slice A len c) (by simp [Act.eval]) (by simp [Act.eval]) _ (HRUN.out _ (by exact (Below.refl _ _).drew) _) ?_; rintro v1 w1 ⟨⟨A1, c1, rfl, hby1⟩, hB1⟩; obtain ⟨y0, y1, y2, y3⟩ := HX.out w1 hB1))
  clear x0 x1 x2 x3 y0 y1 y2 y3
  have hrx := HRX.out w3 hB13
  unfold infoL at hI3
  have hI4 := hI3
  have q0 := (cell_of hI3 0).trans rfl
  have q1 := (cell_of hI3 1).trans rfl
  have q2 := (cell_of hI3 2).trans rfl
  have q3 := (cell_of hI3 3).trans rfl
  have q4 := (cell_of hI3 4).trans rfl
  have q5 := (cell_of hI3 5).trans rfl
  have q6 := (cell_of hI3 6).trans rfl
  have q7 := (cell_of hI3 7).trans rfl
  have q8 := (cell_of hI3 8).trans rfl
  go_wp2_with fail
  have hne : p ≠ w.heap.size + 1 := by have h1 := hB12.size; have h2 := HZZ.out; omega
  have f0 := free_of hrx 0
  have f1 := free_of hrx 1
  have f2 := free_of hrx 2
  have f3 := free_of hrx 3
  have f4 := free_of hrx 4
  have f5 := free_of hrx 5
  have f6 := free_of hrx 6
  have f7 := free_of hrx 7
  have r0 := (cell_of hrx 0).trans rfl
  have r1 := (cell_of hrx 1).trans rfl
  have r2 := (cell_of hrx 2).trans rfl
  have r3 := (cell_of hrx 3).trans rfl
  have r4 := (cell_of hrx 4).trans rfl
  have r5 := (cell_of hrx 5).trans rfl
  have r6 := (cell_of hrx 6).trans rfl
  have r7 := (cell_of hrx 7).trans rfl
  clear hrx hI3
  go_region_held3 (fun w' => w'.cell? ⟨p, 0, none⟩ = some (.int .i64 n) ∧ w'.cell? ⟨p, 2, none⟩ = some (.string rt) ∧ w'.cell? ⟨p, 3, none⟩ = some (.string sl) ∧ w'.cell? ⟨p, 4, none⟩ = some (.string al) ∧ w'.cell? ⟨p, 5, none⟩ = some (.int .u32 4096) ∧ w'.cell? ⟨p, 6, none⟩ = some (.int .u32 4096) ∧ w'.cell? ⟨p, 7, none⟩ = some (.int .u64 n) ∧ w'.cell? ⟨p, 8, none⟩ = some (.int .u32 1)) (first | (refine ⟨?_, ?_, ?_, ?_, ?_, ?_, ?_, ?_⟩ <;> (simp only [drew_cell, set_other hne]; assumption)) | (go_split_ands; refine ⟨?_, ?_, ?_, ?_, ?_, ?_, ?_, ?_⟩ <;> assumption)) (fail)
  go_wp2_with fail
  refine bodyPost_ret (v := .tuple #[.agg (verL rt sl al n), .int .i64 0]) (by simp [results, Tryd.results22, go_sem, verL, r0, r1, r2, r3, r4, r5, r6, r7]) rfl ⟨rfl, ?_⟩
  have hBw := hb0.trans (hB13.mono hb0.size)
  clear r0 r1 r2 r3 r4 r5 r6 r7 f0 f1 f2 f3 f4 f5 f6 f7 q0 q1 q2 q3 q4 q5 q6 q7 q8
  refine Below.drew ?_
  repeat (first | with_reducible exact hBw | (with_reducible refine Below.setCell ?_ ?_ _; rotate_left; exact Nat.le_succ _))
end Go.Proofs.YtfanlhkpblemgaaDoor
