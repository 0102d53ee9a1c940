/- FnVerityBack: the doors. -/
import Derived.Test.YtfanlhkpblemgaaDoorVoWalk
namespace Go.Proofs.YtfanlhkpblemgaaDoor
open Go.RowKit Go.Rd
set_option linter.unusedVariables false
set_option linter.unusedSimpArgs false
open Go.Proofs.YtfanlhkpblemgaaDoorW.PrintWords Go.Proofs.YtfanlhkpblemgaaDoorW.PrintLast Go.Proofs.YtfanlhkpblemgaaDoorW.PrintMore

/-- A row of bytes and true. -/
def OkPost (r : List Int) (w : World) (e : Ending) (w' : World) : Prop := ∃ v, e = .returned (.tuple #[v, .bool true]) ∧ Row w.heap.size w' v r ∧ Below w.heap.size w w'
/-- A copy of bytes, as a run. -/
theorem dup_run {W0 : World} {A : Option Addr} {n c : Nat} {l : List Int} (hB : BytesIn W0 A n c l) (hn : n ≤ 10000000) (W : World) (hW : Below W0.heap.size W0 W) (ty : TypeId) :
    ∃ v' w', (Builtin.append_ #[22, 22] ty #[.slice none 0 0, .slice A n c]).run Tryd.prog W = .ok v' w' ∧ (∃ A2 c2, v' = .slice A2 n c2 ∧ BytesIn w' A2 n c2 l) ∧ Below W0.heap.size W0 w' := by
  obtain ⟨v', w', hr, hR, hB2⟩ := run_bytes W.heap.size ty (.slice none 0 0) [] (Row.nil _ _) A n c l (hB.below hW) (by simp; omega) (Nat.le_refl _)
  rw [List.nil_append] at hR
  obtain ⟨A2, c2, e, hb⟩ := hR.bytes
  rw [hB.len] at e hb
  exact ⟨v', w', hr, ⟨A2, c2, e, hb⟩, hW.trans (hB2.mono hW.size)⟩
/-- A boxed digest's cells, in whatever world. -/
theorem dig_cells {W0 wx : World} {b : Nat} {W : Nat → Int} (h : W0.heap[b]? = some (.cells (DigCells W) 38 (0, 0))) (hB : Below W0.heap.size W0 wx) :
    wx.cell? ⟨b, 0, none⟩ = some (.int .u64 (W 0)) ∧ wx.cell? ⟨b, 1, none⟩ = some (.int .u64 (W 1)) ∧ wx.cell? ⟨b, 2, none⟩ = some (.int .u64 (W 2)) ∧ wx.cell? ⟨b, 3, none⟩ = some (.int .u64 (W 3)) := by
  have h2 := (hB.block b (lt_of_heap h)).trans h
  exact ⟨cell_of h2 0, cell_of h2 1, cell_of h2 2, cell_of h2 3⟩
set_option maxRecDepth 100000 in
set_option maxHeartbeats 4000000 in
theorem tree_any (W : Nat → Int) (hW : ∀ i, i < 4 → InU64 (W i)) (A : Option Addr) (n c : Nat) (l : List Int) (w : World) (hB : BytesIn w A n c l) (hl : Whole l) :
    Calls Tryd.prog 20 #[wordV W, .slice A n c] w (OkPost (mtree (digest W) l) w) := by
  have hlen := hB.len
  have hpos : ((n : Int) == 0) = false := beq_eq_false_iff_ne.2 (by have := hl.pos; omega)
  have hn : n ≤ 10000000 := by have := hl.max; omega
  obtain ⟨W0, hW0⟩ : ∃ W0, w.alloc (.cells #[.int .u64 (W 0), .int .u64 (W 1), .int .u64 (W 2), .int .u64 (W 3)] 38) = W0 := ⟨_, rfl⟩
  have hb0 : Below w.heap.size w W0 := by rw [← hW0]; exact (Below.refl _ _).alloc (Nat.le_refl _) _
  have hbx : W0.heap[w.heap.size]? = some (.cells (DigCells W) 38 (0, 0)) := by rw [← hW0]; exact alloc_new w _
  have HRUN := Lib.hid (dup_run (hB.below hb0) hn)
  have HX := Lib.hid (fun wx (h : Below W0.heap.size W0 wx) => dig_cells hbx h)
  have HWD := Lib.hid hW
  have HL := Lib.hid hl
  have HLEN := Lib.hid hlen
  clear hB hW hl hlen hn
  unfold wordV DigCells
  go_enter Tryd.func20, Tryd.ntmps20
  go_wp2_with fail
  clear hW0
  obtain ⟨x0, x1, x2, x3⟩ := HX.out W0 (Below.refl _ _)
  go_region_held3 (fun w' => w'.cell? ⟨w.heap.size, 0, none⟩ = some (.int .u64 (W 0)) ∧ w'.cell? ⟨w.heap.size, 1, none⟩ = some (.int .u64 (W 1)) ∧ w'.cell? ⟨w.heap.size, 2, none⟩ = some (.int .u64 (W 2)) ∧ w'.cell? ⟨w.heap.size, 3, none⟩ = some (.int .u64 (W 3))) (first | go_keep | (go_split_ands; refine ⟨?_, ?_, ?_, ?_⟩ <;> assumption)) (first
    | (go_at_call 37; refine (merkle_any A1 n c1 l b2 W w2 (hby1.below hB2) hWA HL.out).mono ?_; rintro e w3 ⟨v3, rfl, hR3, hB3⟩; have hB13 := hB12.trans (hB3.mono hB12.size); obtain ⟨y0, y1, y2, y3⟩ := HX.out w3 hB13)
    | (go_at_call 36; refine (digest_any W HWD.out w1).mono ?_; rintro e w2 ⟨b2, rfl, hb2, hWA, hB2⟩; have hB12 := hB1.trans (hB2.mono hB1.size); obtain ⟨y0, y1, y2, y3⟩ := HX.out w2 hB12)
    | (refine step_append_run rfl (.const (.slice none 0 0)) (.tmp 12) 22 rfl (.slice none 0 0) (.slice A n c) (by simp [Act.eval]) (by simp [Act.eval]) _ (HRUN.out _ (by exact (Below.refl _ _).drew) _) ?_; rintro v1 w1 ⟨⟨A1, c1, rfl, hby1⟩, hB1⟩; obtain ⟨y0, y1, y2, y3⟩ := HX.out w1 hB1))
  clear x0 x1 x2 x3 y0 y1 y2 y3
  go_wp2_with fail
  go_quiet (fail)
  go_wp2_with fail
  go_ret2
  have hBw := hb0.trans (hB13.mono hb0.size)
  exact ⟨v3, rfl, hR3.lower (Nat.le_trans hb0.size hB12.size), by first | exact hBw | exact hBw.drew | exact pw_below_drewN hBw _⟩
set_option maxRecDepth 100000 in
set_option maxHeartbeats 4000000 in
theorem rootd_any (W : Nat → Int) (hW : ∀ i, i < 4 → InU64 (W i)) (A : Option Addr) (n c : Nat) (l : List Int) (w : World) (hB : BytesIn w A n c l) (hl : 4096 ≤ n ∧ n ≤ 10000000) :
    Calls Tryd.prog 21 #[wordV W, .slice A n c] w (OkPost (digest W (z32 ++ l.take 4096)) w) := by
  have hlen := hB.len
  have hpos : decide (n < 4096) = false := decide_eq_false (by omega)
  have hpos2 : decide ((n : Int) < 4096) = false := decide_eq_false (by omega)
  have hn := hl.2
  obtain ⟨W0, hW0⟩ : ∃ W0, w.alloc (.cells #[.int .u64 (W 0), .int .u64 (W 1), .int .u64 (W 2), .int .u64 (W 3)] 38) = W0 := ⟨_, rfl⟩
  have hb0 : Below w.heap.size w W0 := by rw [← hW0]; exact (Below.refl _ _).alloc (Nat.le_refl _) _
  have hbx : W0.heap[w.heap.size]? = some (.cells (DigCells W) 38 (0, 0)) := by rw [← hW0]; exact alloc_new w _
  have HRUN := Lib.hid (dup_run (hB.below hb0) hn)
  have HX := Lib.hid (fun wx (h : Below W0.heap.size W0 wx) => dig_cells hbx h)
  have HWD := Lib.hid hW
  have HL := Lib.hid hl
  have HLEN := Lib.hid hlen
  clear hB hW hl hlen hn
  unfold wordV DigCells
  go_enter Tryd.func21, Tryd.ntmps21
  go_wp2_with fail
  clear hW0
  obtain ⟨x0, x1, x2, x3⟩ := HX.out W0 (Below.refl _ _)
  go_region_held3 (fun w' => w'.cell? ⟨w.heap.size, 0, none⟩ = some (.int .u64 (W 0)) ∧ w'.cell? ⟨w.heap.size, 1, none⟩ = some (.int .u64 (W 1)) ∧ w'.cell? ⟨w.heap.size, 2, none⟩ = some (.int .u64 (W 2)) ∧ w'.cell? ⟨w.heap.size, 3, none⟩ = some (.int .u64 (W 3))) (first | go_keep | (go_split_ands; refine ⟨?_, ?_, ?_, ?_⟩ <;> assumption)) (first
    | (go_at_call 38; refine (root_any A1 n c1 l b2 W w2 (hby1.below hB2) hWA HL.out.1).mono ?_; rintro e w3 ⟨v3, rfl, hR3, hB3⟩; have hB13 := hB12.trans (hB3.mono hB12.size); obtain ⟨y0, y1, y2, y3⟩ := HX.out w3 hB13)
    | (go_at_call 36; refine (digest_any W HWD.out w1).mono ?_; rintro e w2 ⟨b2, rfl, hb2, hWA, hB2⟩; have hB12 := hB1.trans (hB2.mono hB1.size); obtain ⟨y0, y1, y2, y3⟩ := HX.out w2 hB12)
    | (refine step_append_run rfl (.const (.slice none 0 0)) (.tmp 9) 22 rfl (.slice none 0 0) (.slice A n c) (by simp [Act.eval]) (by simp [Act.eval]) _ (HRUN.out _ (by exact (Below.refl _ _).drew) _) ?_; rintro v1 w1 ⟨⟨A1, c1, rfl, hby1⟩, hB1⟩; obtain ⟨y0, y1, y2, y3⟩ := HX.out w1 hB1))
  clear x0 x1 x2 x3 y0 y1 y2 y3
  go_wp2_with fail
  go_ret2
  have hBw := hb0.trans (hB13.mono hb0.size)
  exact ⟨v3, rfl, hR3.lower (Nat.le_trans hb0.size hB12.size), by first | exact hBw | exact hBw.drew | exact pw_below_drewN hBw _⟩
set_option maxRecDepth 100000 in
set_option maxHeartbeats 4000000 in
theorem deviced_any (W : Nat → Int) (hW : ∀ i, i < 4 → InU64 (W i)) (Au : Option Addr) (nu cu : Nat) (us : List Int) (A : Option Addr) (n c : Nat) (l : List Int) (w : World) (hU : BytesIn w Au nu cu us) (hnu : nu ≤ 100) (hB : BytesIn w A n c l) (hl : Whole l) :
    Calls Tryd.prog 18 #[wordV W, .slice Au nu cu, .slice A n c] w (OkPost (deviceB (digest W) (pad16 us) l) w) := by
  have hlen := hB.len
  have hpos : ((n : Int) == 0) = false := beq_eq_false_iff_ne.2 (by have := hl.pos; omega)
  have hn : n ≤ 10000000 := by have := hl.max; omega
  have hpu := uidOf_pad us
  have hpf : Fit8 (pad16 us) := pad16_fits hU.fits
  rw [← hpu] at hpf ⊢
  have HPF := Lib.hid hpf
  obtain ⟨W0, hW0⟩ : ∃ W0, w.alloc (.cells #[.int .u64 (W 0), .int .u64 (W 1), .int .u64 (W 2), .int .u64 (W 3)] 38) = W0 := ⟨_, rfl⟩
  have hb0 : Below w.heap.size w W0 := by rw [← hW0]; exact (Below.refl _ _).alloc (Nat.le_refl _) _
  have hbx : W0.heap[w.heap.size]? = some (.cells (DigCells W) 38 (0, 0)) := by rw [← hW0]; exact alloc_new w _
  have HRUN := Lib.hid (dup_run (hB.below hb0) hn)
  have HX := Lib.hid (fun wx (h : Below W0.heap.size W0 wx) => dig_cells hbx h)
  have HWD := Lib.hid hW
  have HUB := Lib.hid (fun wx (h : Below W0.heap.size W0 wx) => (hU.below hb0).below h)
  have HNU := Lib.hid hnu
  have HL := Lib.hid hl
  have HLEN := Lib.hid hlen
  clear hB hW hl hlen hn hU hnu hpu hpf
  unfold wordV DigCells
  go_enter Tryd.func18, Tryd.ntmps18
  go_wp2_with fail
  clear hW0
  obtain ⟨x0, x1, x2, x3⟩ := HX.out W0 (Below.refl _ _)
  go_region_held3 (fun w' => w'.cell? ⟨w.heap.size, 0, none⟩ = some (.int .u64 (W 0)) ∧ w'.cell? ⟨w.heap.size, 1, none⟩ = some (.int .u64 (W 1)) ∧ w'.cell? ⟨w.heap.size, 2, none⟩ = some (.int .u64 (W 2)) ∧ w'.cell? ⟨w.heap.size, 3, none⟩ = some (.int .u64 (W 3))) (first | go_keep | (go_split_ands; refine ⟨?_, ?_, ?_, ?_⟩ <;> assumption)) (first
    | (go_at_call 34; refine (HDV.out w3 (hby1.below (hB2.trans (hB3'.mono hB2.size))) hWA).mono ?_; rintro e w4 ⟨v3, rfl, hR3, hB4⟩; have hB14 := hB13.trans (hB4.mono hB13.size); obtain ⟨y0, y1, y2, y3⟩ := HX.out w4 hB14)
    | (go_at_call 36; refine (digest_any W HWD.out w2).mono ?_; rintro e w3 ⟨b2, rfl, hb2, hWA, hB3'⟩; have hB13 := hB12.trans (hB3'.mono hB12.size); obtain ⟨y0, y1, y2, y3⟩ := HX.out w3 hB13; have HDV := Lib.hid (fun (W1 : World) (h1 : BytesIn W1 A1 n c1 l) (h2 : WordsAt W1 b2 W) => (by have h := device_any A1 c1 l (padAt us) b2 W W1 (by rw [HLEN.out]; exact h1) h2 HL.out HPF.out; rw [HLEN.out] at h; exact h : Calls Tryd.prog 34 #[.slice A1 n c1, uidV (padAt us), HashV b2] W1 (DevPost (digest W) (uidOf (padAt us)) l W1))); unfold uidV at HDV)
    | (go_at_call 35; refine (uuid_any Au nu cu us w1 (HUB.out w1 hB1) HNU.out).mono ?_; rintro e w2 ⟨rfl, hB2⟩; have hB12 := hB1.trans (hB2.mono hB1.size); obtain ⟨y0, y1, y2, y3⟩ := HX.out w2 hB12; unfold uidV)
    | (refine step_append_run rfl (.const (.slice none 0 0)) (.tmp 14) 22 rfl (.slice none 0 0) (.slice A n c) (by simp [Act.eval]) (by simp [Act.eval]) _ (HRUN.out _ (by exact (Below.refl _ _).drew) _) ?_; rintro v1 w1 ⟨⟨A1, c1, rfl, hby1⟩, hB1⟩; obtain ⟨y0, y1, y2, y3⟩ := HX.out w1 hB1))
  clear x0 x1 x2 x3 y0 y1 y2 y3
  go_wp2_with fail
  go_quiet (fail)
  go_wp2_with fail
  go_ret2
  have hBw := hb0.trans (hB14.mono hb0.size)
  exact ⟨v3, rfl, hR3.lower (Nat.le_trans hb0.size hB13.size), by first | exact hBw | exact hBw.drew | exact pw_below_drewN hBw _⟩
end Go.Proofs.YtfanlhkpblemgaaDoor
