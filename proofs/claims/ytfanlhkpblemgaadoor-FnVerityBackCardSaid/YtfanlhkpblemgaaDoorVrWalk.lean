/- FnVerityBack: the law's helpers. -/
import Derived.Test.YtfanlhkpblemgaaDoorVqWalk
namespace Go.Proofs.YtfanlhkpblemgaaDoor
open Go.RowKit Go.Rd
set_option linter.unusedVariables false
set_option linter.unusedSimpArgs false
open Go.Proofs.YtfanlhkpblemgaaDoorW.PrintWords Go.Proofs.YtfanlhkpblemgaaDoorW.PrintLast Go.Proofs.YtfanlhkpblemgaaDoorW.PrintMore

def DupPost (l : List Int) (n : Nat) (W0 : World) (e : Ending) (w' : World) : Prop := ∃ A c, e = .returned (.slice A n c) ∧ BytesIn w' A n c l ∧ Below W0.heap.size W0 w'
set_option maxRecDepth 100000 in
set_option maxHeartbeats 2000000 in
theorem dup_any (A : Option Addr) (n c : Nat) (l : List Int) (w : World) (hB : BytesIn w A n c l) (hn : n ≤ 10000000) : Calls Tryd.prog 19 #[.slice A n c] w (DupPost l n w) := by
  have hbx : Below w.heap.size w (w.alloc (.cells #[] 5)) := (Below.refl _ _).alloc (Nat.le_refl _) _
  have HB := Lib.hid hB
  have HR : Hid (Row w.heap.size (w.alloc (.cells #[] 5)) (.slice (some ⟨w.heap.size, 0, none⟩) 0 0) []) := Lib.hid ⟨none_row w 5 _ (Nat.le_refl _), fun c hc => by simp at hc⟩
  clear hB
  go_enter Tryd.func19, Tryd.ntmps19
  go_wp2_with (at_builtin; refine app_bytes w.heap.size rfl (.tmp 3) (.tmp 4) rfl (.slice (some ⟨w.heap.size, 0, none⟩) 0 0) [] rfl HR.out A n c l rfl (HB.out.below hbx) (by simp; omega) hbx.size ?_; rw [List.nil_append]; intro v1 w1 hR1 hg1 hB1)
  go_ret
  obtain ⟨A2, c2, e2, hb2⟩ := hR1.bytes
  rw [HB.out.len] at e2 hb2
  exact ⟨A2, c2, congrArg _ e2, hb2, hbx.trans (hB1.mono (Nat.le_refl _))⟩
theorem dup_at {W0 : World} {A : Option Addr} {n c : Nat} {l : List Int} (hB : BytesIn W0 A n c l) (hn : n ≤ 10000000) (W : World) (hW : Below W0.heap.size W0 W) : Calls Tryd.prog 19 #[.slice A n c] W (DupPost l n W0) :=
  (dup_any A n c l W (hB.below hW) hn).mono fun e w' ⟨A2, c2, h1, h2, h3⟩ => ⟨A2, c2, h1, h2, hW.trans (h3.mono hW.size)⟩
theorem fair_any (A : Option Addr) (n c : Nat) (b : Bool) (hb : decide ((n : Int) ≤ 1228800) = b) (w : World) : Calls Tryd.prog 16 #[.slice A n c] w fun e w' => e = .returned (.bool b) ∧ w' = w := by
  subst hb
  go_enter Tryd.func16, Tryd.ntmps16
  go_wp2
  go_ret
  exact ⟨rfl, rfl⟩
theorem whole_any (A : Option Addr) (n c : Nat) (b : Bool) (hn : 0 < n) (hb : ((n : Int) % 4096 == 0) = b) (w : World) : Calls Tryd.prog 17 #[.slice A n c] w fun e w' => e = .returned (.bool b) ∧ w' = w := by
  have h0 : decide (0 < n) = true := decide_eq_true hn
  have h1 : decide ((0 : Int) < (n : Int)) = true := decide_eq_true (by omega)
  go_enter Tryd.func17, Tryd.ntmps17
  go_wp2
  go_ret
  exact ⟨by rw [← hb]; rfl, rfl⟩
theorem whole_none (A : Option Addr) (c : Nat) (w : World) : Calls Tryd.prog 17 #[.slice A 0 c] w fun e w' => e = .returned (.bool false) ∧ w' = w := by
  go_enter Tryd.func17, Tryd.ntmps17
  go_wp2
  go_ret
  exact ⟨rfl, rfl⟩
/-- What is read of the device of hashes of a device. -/
theorem back_read (W : Nat → Int) (hW : ∀ i, i < 4 → InU64 (W i)) (us l : List Int) (hl : Whole l) (hu : Fit8 us) (A : Option Addr) (dl c : Nat) (hdl : (deviceB (digest W) (pad16 us) l).length = dl) (w : World) (hB : BytesIn w A dl c (deviceB (digest W) (pad16 us) l)) :
    Calls Tryd.prog 22 #[wordV W, .slice A dl c] w (VerPost (hexS (digest W (z32 ++ (mtree (digest W) l).take 4096))) ((l.length / 4096 : Nat) : Int) w) := by
  have hpu := uidOf_pad us
  have hpf : Fit8 (pad16 us) := pad16_fits hu
  have htl := mtree_length (digest_is W) hl.mod hl.pos hl.max
  have htr := deviceB_tree (digest W) (u := pad16 us) (l := l) (pad16_length us)
  have e : deviceB (digest W) (pad16 us) l = superB (pad16 us) ((l.length / 4096 : Nat) : Int) ++ (List.replicate 3584 0 ++ mtree (digest W) l) := by unfold deviceB; rw [List.append_assoc]
  have hlen : (deviceB (digest W) (pad16 us) l).length = 4096 + (mtree (digest W) l).length := by
    rw [e, List.length_append, superB_length (pad16_length us), List.length_append, List.length_replicate]
    omega
  obtain ⟨m, hm⟩ : ∃ m, (mtree (digest W) l).length = m := ⟨_, rfl⟩
  rw [hm] at hlen htl
  rw [hlen] at hdl
  subst hdl
  rw [← htr, e]
  rw [e] at hB
  obtain ⟨R, hR⟩ : ∃ R, List.replicate 3584 0 ++ mtree (digest W) l = R := ⟨_, rfl⟩
  rw [hR] at hB ⊢
  rw [← hpu] at hB hpf ⊢
  have hq := hl.max
  exact verread_any W hW A m c (padAt us) ((l.length / 4096 : Nat) : Int) R w hB htl.1 (by omega) (by omega) hpf
end Go.Proofs.YtfanlhkpblemgaaDoor
