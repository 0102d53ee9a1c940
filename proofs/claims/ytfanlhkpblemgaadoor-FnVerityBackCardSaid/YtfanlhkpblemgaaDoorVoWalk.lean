/- FnVerityBack: a device of hashes is made. -/
import Derived.Test.YtfanlhkpblemgaaDoorVnWalk
namespace Go.Proofs.YtfanlhkpblemgaaDoor
open Go.RowKit Go.Rd
set_option linter.unusedVariables false
set_option linter.unusedSimpArgs false
open Go.Proofs.YtfanlhkpblemgaaDoorW.PrintWords Go.Proofs.YtfanlhkpblemgaaDoorW.PrintLast Go.Proofs.YtfanlhkpblemgaaDoorW.PrintMore

def DevPost (H : List Int → List Int) (u l : List Int) (w : World) (e : Ending) (w' : World) : Prop := ∃ v, e = .returned (.tuple #[v, .nilIface]) ∧ Row w.heap.size w' v (deviceB H u l) ∧ Below w.heap.size w w'
theorem sb_super (u : List Int) (n : Int) : sb u n 12 = superB u n := rfl
def uidC (a : Nat → Int) : Array Value := #[.int .u8 (a 0), .int .u8 (a 1), .int .u8 (a 2), .int .u8 (a 3), .int .u8 (a 4), .int .u8 (a 5), .int .u8 (a 6), .int .u8 (a 7), .int .u8 (a 8), .int .u8 (a 9), .int .u8 (a 10), .int .u8 (a 11), .int .u8 (a 12), .int .u8 (a 13), .int .u8 (a 14), .int .u8 (a 15)]
set_option maxRecDepth 100000 in
set_option maxHeartbeats 4000000 in
theorem device_any (A : Option Addr) (c : Nat) (l : List Int) (a : Nat → Int) (bd : Nat) (W : Nat → Int) (w : World) (hB : BytesIn w A l.length c l) (hW : WordsAt w bd W) (hl : Whole l) (hu : Fit8 (uidOf a)) :
    Calls Tryd.prog 34 #[.slice A l.length c, uidV a, HashV bd] w (DevPost (digest W) (uidOf a) l w) := by
  have hbl := lt_of_heap hW.blk
  obtain ⟨n, hn⟩ : ∃ n, l.length = n := ⟨_, rfl⟩
  have hnb : n ≤ 1228800 := by rw [← hn]; exact hl.max
  obtain ⟨H, hH⟩ : ∃ H, digest W = H := ⟨_, rfl⟩
  have hm := fun (W1 : World) (h1 : Below w.heap.size w W1) => merkle_any A n c l bd W W1 (by rw [← hn]; exact hB.below h1) (hW.below h1 hbl) hl
  have hIs := digest_is W
  rw [hH] at hm hIs ⊢
  rw [hn] at hB ⊢
  have HM := Lib.hid hm
  have HIS := Lib.hid hIs
  have HNW := Lib.hid (fun (W1 : World) => new_any (n : Int) a W1 (by omega) (by omega))
  obtain ⟨Z, hZ, hmk⟩ := zeros_run 3584 (by decide)
  have hmk' : ∀ W : World, (Instr.makeSlice 22 (.int .i64 3584) (.int .i64 3584)).run Tryd.prog W = .ok (.slice (some ⟨W.heap.size, 0, none⟩) 3584 3584) (W.alloc (.cells Z 5)) := hmk
  have HL := Lib.hid hl
  have HU := Lib.hid hu
  have HNE := Lib.hid hn
  clear hB hW hl hu hm hH hmk hIs hn
  unfold TreePost at HM
  unfold HashV at *
  unfold uidV at *
  go_enter Tryd.func34, Tryd.ntmps34
  go_wp2_with (first
    | (at_builtin; refine app_bytes w.heap.size rfl (.tmp 33) (.tmp 34) rfl v6 (superB (uidOf a) ((n : Int) / 4096) ++ List.replicate 3584 0) rfl hR6 A1 (mtree H l).length c1 (mtree H l) rfl (hby1.below hB16) (by have := HLT.out; simp only [List.length_append, List.length_replicate, superB_length (show (uidOf a).length = 16 from rfl)]; omega) hB6.size ?_; intro v7 w7 hR7 hg7 hB7)
    | (at_builtin; refine app_bytes w.heap.size rfl (.tmp 30) (.tmp 31) rfl v3 (superB (uidOf a) ((n : Int) / 4096)) rfl (hR3.below ((Below.refl _ _).alloc (Nat.le_refl _) _)) (some ⟨w3.heap.size, 0, none⟩) 3584 3584 (List.replicate 3584 0) rfl (bytes_zeros w3 3584 (by decide) hZ) (by rw [superB_length (show (uidOf a).length = 16 from rfl)]; decide) (Nat.le_trans hB3.size ((Below.refl w3.heap.size w3).alloc (Nat.le_refl _) (.cells Z 5)).size) ?_; intro v6 w6 hR6 hg6 hB6'; have hB6 : Below w.heap.size w w6 := (hB3.alloc hB3.size _).trans hB6'; have hB16 : Below w1.heap.size w1 w6 := (hB13.alloc hB13.size _).trans (Row.grown (hR3l.below ((Below.refl _ _).alloc (Nat.le_refl _) (.cells Z 5))) hg6 (by simp; have := hB13.size; omega)))
    | (go_at_call 46; refine (bytes_any b (uidOf a) ((n : Int) / 4096) w2 hSb rfl HU.out (by omega) (by omega)).mono ?_; rintro e w3 ⟨v3, rfl, hR3', hB3'⟩; have hB13 : Below w1.heap.size w1 w3 := hB2.trans (hB3'.mono hB2.size); have hR3l : Row w1.heap.size w3 v3 (superB (uidOf a) ((n : Int) / 4096)) := hR3'.lower hB2.size; have hB3 : Below w.heap.size w w3 := hB1.trans (hB13.mono hB1.size); have hR3 : Row w.heap.size w3 v3 (superB (uidOf a) ((n : Int) / 4096)) := hR3l.lower hB1.size)
    | (go_at_call 45; refine (HNW.out w1).mono ?_; rintro e w2 ⟨b, rfl, hbb, hSb, hB2⟩)
    | (go_at_call 37; refine (HM.out _ ((Below.refl _ _).alloc (Nat.le_refl _) (.cells (uidC a) 69))).mono ?_; rintro e w1 ⟨v1, rfl, hR1, hB1'⟩; have hB1 : Below w.heap.size w w1 := ((Below.refl _ _).alloc (Nat.le_refl _) (.cells (uidC a) 69)).trans (hB1'.mono (by simp)); have hbx : w1.heap[w.heap.size]? = some (.cells (uidC a) 69 (0, 0)) := (hB1'.block w.heap.size (by simp)).trans (alloc_new w _); unfold uidC at hbx; have z0 := (cell_of hbx 0).trans rfl; have z1 := (cell_of hbx 1).trans rfl; have z2 := (cell_of hbx 2).trans rfl; have z3 := (cell_of hbx 3).trans rfl; have z4 := (cell_of hbx 4).trans rfl; have z5 := (cell_of hbx 5).trans rfl; have z6 := (cell_of hbx 6).trans rfl; have z7 := (cell_of hbx 7).trans rfl; have z8 := (cell_of hbx 8).trans rfl; have z9 := (cell_of hbx 9).trans rfl; have z10 := (cell_of hbx 10).trans rfl; have z11 := (cell_of hbx 11).trans rfl; have z12 := (cell_of hbx 12).trans rfl; have z13 := (cell_of hbx 13).trans rfl; have z14 := (cell_of hbx 14).trans rfl; have z15 := (cell_of hbx 15).trans rfl; have HLT := Lib.hid (mtree_length HIS.out HL.out.mod HL.out.pos HL.out.max); obtain ⟨A1, c1, e1, hby1⟩ := hR1.bytes; subst e1))
  go_ret2
  exact ⟨v7, rfl, by unfold deviceB; rw [HNE.out, show ((n / 4096 : Nat) : Int) = (n : Int) / 4096 by omega]; exact hR7, hB6.trans hB7⟩
end Go.Proofs.YtfanlhkpblemgaaDoor
