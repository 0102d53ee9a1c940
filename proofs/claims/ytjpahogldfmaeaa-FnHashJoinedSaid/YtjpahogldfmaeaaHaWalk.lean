/- The walk of the hash of an attribute. -/
import Derived.Test.YtjpahogldfmaeaaRows
import Derived.Test.YtjpahogldfmaeaaRd
import Derived.Test.YtjpahogldfmaeaaHaPlain
import Derived.Laws.CopyOwn
import Derived.Deep.RegionLaw
import Derived.WalkSmall
import Derived.WalkKit
import Derived.ProofKit
import Derived.OpenShut
import Derived.Lib.Hide
import Derived.LoopTactic
import Derived.BigQuiet
import Derived.Deep.QuietTactic
import Derived.WalkSpells
namespace Go.Proofs.Ytjpahogldfmaeaa
open Go.ChangeShapes Go.WideShapes Go.ChangeAt Go.RowKit Go.Rd

theorem ret_i {k : IntKind} {a b : Int} (h : a = b) : Ending.returned (.int k a) = .returned (.int k b) := by rw [h]
theorem vi {k : IntKind} {a b : Int} (h : a = b) : Value.int k a = .int k b := by rw [h]

theorem get32_any (b off len cap : Nat) (x0 x1 x2 x3 : Int) (w : World) (c0 : w.cell? ⟨b, off, none⟩ = some (.int .u8 x0)) (c1 : w.cell? ⟨b, off + 1, none⟩ = some (.int .u8 x1)) (c2 : w.cell? ⟨b, off + 2, none⟩ = some (.int .u8 x2)) (c3 : w.cell? ⟨b, off + 3, none⟩ = some (.int .u8 x3))
    (b0 : 0 ≤ x0) (d0 : x0 ≤ 255) (b1 : 0 ≤ x1) (d1 : x1 ≤ 255) (b2 : 0 ≤ x2) (d2 : x2 ≤ 255) (b3 : 0 ≤ x3) (d3 : x3 ≤ 255) (hl : (4 : Int) ≤ (len : Int)) :
    Calls Try.prog 23 #[.slice (some ⟨b, off, none⟩) len cap] w fun e w' => e = .returned (.int .u32 (w32 x0 x1 x2 x3)) ∧ ∃ n, w.drewN n = w' := by
  have i1 : (1 : Int) < (len : Int) := by omega
  have i2 : (2 : Int) < (len : Int) := by omega
  have i3 : (3 : Int) < (len : Int) := by omega
  have i0 : (0 : Int) < (len : Int) := by omega
  go_enter Try.func23, Try.ntmps23
  go_wp2_with fail
  go_quiet (fail)
  go_wp2_with fail
  go_ret
  exact ⟨ret_i rfl, _, rfl⟩

def NameRel (s : ByteArray) (R : Int) (v5 v6 : Value) : Prop := ∃ (k : Nat) (h : Int), k ≤ s.size ∧ v5 = .int .u32 h ∧ v6 = .int .i64 k ∧ 0 ≤ h ∧ h ≤ 4294967295 ∧ Hid (((s.data.toList.drop k).map fun c => (c.toNat : Int)).foldl hName h = R)
def WordRel (l : List Int) (R : Int) (w : World) (v5 v7 : Value) (wr : World) : Prop := ∃ (k : Nat) (h : Int), k * 4 ≤ l.length ∧ v5 = .int .u32 h ∧ v7 = .int .i64 ((k * 4 : Nat) : Int) ∧ 0 ≤ h ∧ h ≤ 4294967295 ∧ (∃ n, w.drewN n = wr) ∧ Hid ((words (l.drop (k * 4))).foldl hWord h = R)

theorem drop_byte (s : ByteArray) (k : Nat) (h : k < s.size) : (s.data.toList.drop k).map (fun c => (c.toNat : Int)) = (s[k].toNat : Int) :: (s.data.toList.drop (k + 1)).map (fun c => (c.toNat : Int)) := by
  rw [List.drop_eq_getElem_cons (by simpa using h), List.map_cons]
  rfl

theorem u32_byte (s : ByteArray) (k : Nat) (h : k < s.size) : (s[k].toNat : Int) % 4294967296 = (s[k].toNat : Int) := by
  have := s[k].toNat_lt; omega

set_option maxHeartbeats 1000000 in
theorem hash_any (s : ByteArray) (b off len cap : Nat) (l : List Int) (w : World) (hs : s.size ≤ 5000) (hv : BytesIn w (some ⟨b, off, none⟩) len cap l) (hl : len ≤ 5010) :
    Calls Try.prog 19 #[.string s, .slice (some ⟨b, off, none⟩) len cap] w fun e w' => e = .returned (.int .u32 (hashOf s.data.toList l)) ∧ Below w.heap.size w w' := by
  obtain ⟨N, hN⟩ : ∃ N, (s.data.toList.map fun c => (c.toNat : Int)).foldl hName 0 = N := ⟨_, rfl⟩
  obtain ⟨R, hR⟩ : ∃ R, (words l).foldl hWord N = R := ⟨_, rfl⟩
  have hNb := name_bd (s.data.toList.map fun c => (c.toNat : Int)) 0 (by omega)
  rw [hN] at hNb
  have hret : hashOf s.data.toList l = R := by unfold hashOf; rw [hN, hR]
  rw [hret]
  have hlen := hv.len
  have HN := Lib.hid hN
  have HR := Lib.hid hR
  clear hN hR hret
  go_enter Try.func19, Try.ntmps19
  go_wp2_with fail
  go_loop [5, 6] (fun v5 v6 => NameRel s N v5 v6) (fun _ v6 => s.size - (intOf v6).toNat)
  case atStart => exact ⟨0, 0, by omega, rfl, rfl, by omega, by omega, by simpa using HN⟩
  case round =>
    obtain ⟨k, h, hk, rfl, rfl, h0, h1, H⟩ := hrel
    by_cases hlt : k < s.size
    · go_wp2_with fail
      go_round
      case rel =>
        have hq := H.out
        rw [drop_byte s k hlt, List.foldl_cons] at hq
        have hbd := hName_bd h (s[k].toNat : Int)
        exact ⟨k + 1, hName h (s[k].toNat : Int), by omega, rfl, by go_num, hbd.1, hbd.2, Lib.hid hq⟩
      case measure => simp [intOf]; omega
    · obtain rfl : k = s.size := by omega
      have hq : h = N := by
        have := H.out
        rwa [List.drop_of_length_le (by simp), List.map_nil, List.foldl_nil] at this
      subst hq
      clear H
      go_wp2_with fail
      go_loopw [5, 7] (fun v5 v7 wr => WordRel l R w v5 v7 wr) (fun _ v7 _ => len - (intOf v7).toNat)
      case atStart => exact ⟨0, h, by omega, rfl, rfl, h0, h1, ⟨0, rfl⟩, by simpa using HR⟩
      case round =>
        obtain ⟨k, h, hk, rfl, rfl, h0, h1, ⟨nd, rfl⟩, H⟩ := hrel
        by_cases hlt : k * 4 + 3 < len
        · have q0 := hv.at (j := k * 4) (by omega)
          have q1 := hv.at (j := k * 4 + 1) (by omega)
          have q2 := hv.at (j := k * 4 + 2) (by omega)
          have q3 := hv.at (j := k * 4 + 3) (by omega)
          have f0 := hv.fits l[k * 4] (List.getElem_mem _)
          have f1 := hv.fits l[k * 4 + 1] (List.getElem_mem _)
          have f2 := hv.fits l[k * 4 + 2] (List.getElem_mem _)
          have f3 := hv.fits l[k * 4 + 3] (List.getElem_mem _)
          have hw := words_four (l.drop (k * 4)) (by simp; omega)
          simp only [List.getElem_drop, List.drop_drop] at hw
          have HW := Lib.hid hw
          clear hw
          have hcap := hv.le
          go_wp2_with fail
          refine (get32_any b (off + k * 4) 4 (cap - k * 4) l[k * 4] l[k * 4 + 1] l[k * 4 + 2] l[k * 4 + 3] (w.drewN nd) q0 q1 q2 q3 f0.1 f0.2 f1.1 f1.2 f2.1 f2.2 f3.1 f3.2 (by omega)).mono ?_
          rintro e w' ⟨rfl, nq, rfl⟩
          have hwb := bits_within .or .u32 (bits .or .u32 (bits .or .u32 l[k * 4] (l[k * 4 + 1] * 256)) (l[k * 4 + 2] * 65536)) (l[k * 4 + 3] * 16777216)
          have hz : 0 ≤ w32 l[k * 4] l[k * 4 + 1] l[k * 4 + 2] l[k * 4 + 3] := bits_lo_u32 _ _ _
          clear hwb
          go_wp2_with fail
          go_roundw
          case rel =>
            have hq := H.out
            rw [HW.out, List.foldl_cons] at hq
            have hbd := hWord_bd h (w32 l[k * 4] l[k * 4 + 1] l[k * 4 + 2] l[k * 4 + 3])
            exact ⟨k + 1, hWord h (w32 l[k * 4] l[k * 4 + 1] l[k * 4 + 2] l[k * 4 + 3]), by omega, rfl, by go_num, hbd.1, hbd.2, ⟨nd + nq, by simp⟩, Lib.hid (by rw [show (k + 1) * 4 = k * 4 + 4 by omega]; exact hq)⟩
          case measure => simp [intOf]; omega
        · by_cases hm : len % 4 = 0
          · have hk4 : k * 4 = len := by omega
            have hq : h = R := by
              have := H.out
              rwa [List.drop_of_length_le (by omega), words, List.foldl_nil] at this
            subst hq
            have hm' : (((len % 4 : Nat) : Int) != 0) = false := by simp [hm]
            have hm2 : (((len : Int) % 4) != 0) = false := by simp; omega
            clear H
            go_wp2_with fail
            go_ret
            exact ⟨rfl, below_drewN (Below.refl _ _) _⟩
          · have hm2 : (((len : Int) % 4) != 0) = true := by simp; omega
            have hA := andNot_three len (by omega)
            have hk4 : len / 4 * 4 = k * 4 := by omega
            rw [hk4] at hA
            have hcap := hv.le
            have hkl : k * 4 < len := by omega
            have hsrc : ∀ j v, ((l.drop (k * 4)).map (Value.int .u8))[j]? = some v → w.cell? ((⟨b, off + k * 4, none⟩ : Addr).add j) = some v := by
              intro j v hj
              have h1 := hv.cells _ rfl (k * 4 + j) v (by simpa [List.getElem?_drop] using hj)
              rw [addr_add] at h1 ⊢
              rwa [Nat.add_assoc]
            have e1 : ((k : Int) * 4).toNat = k * 4 := by omega
            have e2 : 0 ≤ (k : Int) * 4 := by omega
            have e3 : (k : Int) * 4 ≤ (len : Int) := by omega
            have e4 : ¬ cap = k * 4 := by omega
            have hfit := getD_fits (r := l.drop (k * 4)) (fun c hc => hv.fits c (List.mem_of_mem_drop hc))
            have hws := words_short (r := l.drop (k * 4)) (by simp; omega) (by simp; omega)
            have hrow := last_row (r := l.drop (k * 4)) (by simp; omega)
            have hq := H.out
            rw [hws, List.foldl_cons, List.foldl_nil] at hq
            obtain ⟨w2, hrun, hg2, ht2, hsz2⟩ := copy_run (P := Try.prog) (w := ((w.drewN nd).alloc (.cells #[.int .u8 0, .int .u8 0, .int .u8 0, .int .u8 0] 55)).drew) (dT := 26) (sT := 26) (elem := 5) 3 w.heap.size 0 4 4 (len - k * 4) (cap - k * 4) ⟨b, off + k * 4, none⟩ _ 55 ((l.drop (k * 4)).map (Value.int .u8))
              Try.underlying26 (by kernel_rfl) (by exact alloc_new (w.drewN nd) _) (by rw [List.length_map, List.length_drop]; show _ = min _ _; omega) (fun j v hj => (by have h1 := hsrc j v hj; exact cell_alloc_any h1)) (by simp; omega) (by intro v hv; obtain ⟨c, _, rfl⟩ := List.mem_map.1 hv; rfl)
            have r0 := (cell_of hg2 0).trans (hrow 0 (by omega))
            have r1 := (cell_of hg2 1).trans (hrow 1 (by omega))
            have r2 := (cell_of hg2 2).trans (hrow 2 (by omega))
            have r3 := (cell_of hg2 3).trans (hrow 3 (by omega))
            have hB : Below w.heap.size w w2 := ((((below_drewN (Below.refl _ _) nd).alloc (Nat.le_refl _) _).drew)).trans (ht2.below (B := w.heap.size) (by simp) (fun k hk e => by omega))
            have g0 := hfit 0
            have g1 := hfit 1
            have g2 := hfit 2
            have g3 := hfit 3
            have HQ := Lib.hid hq
            rw [List.length_map, List.length_drop] at hrun
            clear hq hws hrow hg2 ht2 hsz2 hfit hsrc H HR HN hm hk4
            generalize (l.drop (k * 4)).getD 0 0 = x0 at *
            generalize (l.drop (k * 4)).getD 1 0 = x1 at *
            generalize (l.drop (k * 4)).getD 2 0 = x2 at *
            generalize (l.drop (k * 4)).getD 3 0 = x3 at *
            have hz : 0 ≤ w32 x0 x1 x2 x3 := bits_lo_u32 _ _ _
            have ht := bits_hi_u32 .or (bits .or .u32 (bits .or .u32 x0 (x1 * 256)) (x2 * 65536)) (x3 * 16777216)
            clear ht
            go_wp2_with fail
            go_region_law (fail)
            go_wp2_with fail
            refine (get32_any w.heap.size 0 4 4 x0 x1 x2 x3 _ (by exact r0) (by exact r1) (by exact r2) (by exact r3) g0.1 g0.2 g1.1 g1.2 g2.1 g2.2 g3.1 g3.2 (by omega)).mono ?_
            rintro e w' ⟨rfl, nq, rfl⟩
            go_wp2_with fail
            go_ret
            exact ⟨ret_i HQ.out, below_drewN hB _⟩

end Go.Proofs.Ytjpahogldfmaeaa
