/- The walk of FnHashJoined. -/
import Derived.Test.YtjpahogldfmaeaaRows
import Derived.Test.YtjpahogldfmaeaaRd
import Derived.Test.YtjpahogldfmaeaaHbWalk
import Derived.Laws.IdiomCopy
import Derived.Laws.CopyOwn
import Derived.Deep.RegionLaw
import Derived.WalkSmall
import Derived.WalkKit
import Derived.ProofKit
import Derived.OpenShut
import Derived.Lib.Hide
import Derived.LoopTactic
import Derived.BigQuiet
import Derived.Deep.QuietTactic
import Derived.WalkSpells
namespace Go.Proofs.Ytjpahogldfmaeaa
open Go.ChangeShapes Go.WideShapes Go.ChangeAt Go.RowKit Go.Rd

def PadRel (B : Nat) (w : World) (l : List Int) (v8 : Value) (wr : World) : Prop :=
  ∃ j : Nat, wr.ownsRow B 5 1 v8 (l.length + j) ((l ++ List.replicate j 0).map (Value.int .u8)) ∧ Below B w wr ∧ j ≤ 4 ∧ Hid ((l.length % 4 = 0 ∧ j = 0) ∨ (l.length % 4 ≠ 0 ∧ j + l.length % 4 ≤ 4))

def FoldRel (F : List Int) (na : Nat) (R : Int) (w : World) (v9 v10 : Value) (wr : World) : Prop :=
  ∃ (j : Nat) (h : Int), na + j * 4 ≤ F.length ∧ v9 = .int .u32 h ∧ v10 = .int .i64 ((j * 4 : Nat) : Int) ∧ 0 ≤ h ∧ h ≤ 4294967295 ∧ (∃ n, w.drewN n = wr) ∧ Hid ((words (F.drop (na + j * 4))).foldl hWord h = R)

theorem hash_split (name : List UInt8) (F : List Int) (na : Nat) (h4 : na % 4 = 0) (hle : na ≤ F.length) : (words (F.drop na)).foldl hWord (hashOf name (F.take na)) = hashOf name F := by
  unfold hashOf
  rw [← List.foldl_append, ← words_append (na / 4) (F.take na) (F.drop na) (by simp; omega), List.take_append_drop]

theorem one_hash : hashOf [97] [] = 97 := by decide

set_option maxHeartbeats 4000000 in
theorem hj_in (s : ByteArray) (a : Option Addr) (na ca : Nat) (la : List Int) (b : Option Addr) (nb cb : Nat) (lb : List Int) (w : World) (hs : s.size ≤ 5000) (ha : BytesIn w a na ca la) (hb : BytesIn w b nb cb lb) (h4 : na % 4 = 0) (h5 : na + nb ≤ 5000) :
    Calls Try.prog 4 #[.string s, .slice a na ca, .slice b nb cb] w fun e w' => e = .returned (.bool true) ∧ Below w.heap.size w w' := by
  obtain ⟨i0, hi, hz0, hz1, hz2⟩ := info_parts Try.info5
  have hm : (((na : Int) % 4) != 0) = false := by simp; omega
  have t1 : ¬ (5000 < (na : Int) + (nb : Int)) := by omega
  have t2 : ¬ (2147483647 < (na : Int)) := by omega
  have t3 : ¬ (2147483647 < (nb : Int)) := by omega
  have HA := Lib.hid ha
  have HB := Lib.hid hb
  clear ha hb
  have hlen : (la ++ lb).length = na + nb := by rw [List.length_append, HA.out.len, HB.out.len]
  have hf : ∀ c ∈ la ++ lb, 0 ≤ c ∧ c ≤ 255 := fun c hc => (List.mem_append.1 hc).elim (HA.out.fits c) (HB.out.fits c)
  obtain ⟨l, hl⟩ : ∃ l, la ++ lb = l := ⟨_, rfl⟩
  rw [hl] at hlen hf
  have HL := Lib.hid hl
  have Hf := Lib.hid hf
  have Hlen := Lib.hid hlen
  clear hl hf hlen
  go_enter Try.func4, Try.ntmps4
  have hB0 : Below w.heap.size w (w.alloc (.cells #[] 5)) := (Below.refl _ _).alloc (Nat.le_refl _) _
  have hA0 := Lib.hid (HA.out.below hB0).src
  go_wp2_with (first | (at_builtin; refine append_src rfl (.tmp 42) (.tmp 43) 26 rfl w.heap.size 5 i0 (.int .u8 0) 1 1 Try.underlying26 hi hz0 hz1 hz2 rfl (by decide) _ 0 [] rfl (World.ownsRow_made w #[] 0 (Nat.le_refl _) (by decide) rfl) a na ca (la.map (Value.int .u8)) rfl hA0.out.1 hA0.out.2.1 hA0.out.2.2.1 hA0.out.2.2.2 (by unfold maxLen; omega) (by omega) (by simp) ?_; intro v1 w1 hown1 hgrow1; rw [Nat.zero_add, List.nil_append] at hown1; have hb1 : Below w.heap.size w w1 := hB0.grown hgrow1 (by simp) (fun k hk => by cases hk; exact Nat.le_refl _); have hB1 := Lib.hid (HB.out.below hb1).src) | (at_builtin; refine append_src rfl (.tmp 44) (.tmp 45) 26 rfl w.heap.size 5 i0 (.int .u8 0) 1 1 Try.underlying26 hi hz0 hz1 hz2 rfl (by decide) _ na _ rfl hown1 b nb cb (lb.map (Value.int .u8)) rfl hB1.out.1 hB1.out.2.1 hB1.out.2.2.1 hB1.out.2.2.2 (by unfold maxLen; omega) (by omega) hb1.size ?_; intro v2 w2 hown2 hgrow2; rw [← List.map_append, HL.out] at hown2; have hb2 : Below w.heap.size w w2 := hb1.grown hgrow2 hb1.size (fun k hk => (hown1.lt k hk).1); obtain ⟨a2, c2, rfl, hall⟩ := BytesIn.own hown2 Hf.out; have hAll := Lib.hid hall; clear hall; have hB3 : Below w2.heap.size w2 (w2.alloc (.cells #[] 5)) := (Below.refl _ _).alloc (Nat.le_refl _) _; have hA3 := Lib.hid (hAll.out.below hB3).src) | (at_builtin; refine append_src rfl (.tmp 47) (.tmp 48) 26 rfl w2.heap.size 5 i0 (.int .u8 0) 1 1 Try.underlying26 hi hz0 hz1 hz2 rfl (by decide) _ 0 [] rfl (World.ownsRow_made w2 #[] 0 (Nat.le_refl _) (by decide) rfl) a2 (na + nb) c2 (l.map (Value.int .u8)) rfl hA3.out.1 hA3.out.2.1 hA3.out.2.2.1 hA3.out.2.2.2 (by unfold maxLen; omega) (by omega) (by simp) ?_; intro v3 w3 hown3 hgrow3; rw [Nat.zero_add, List.nil_append] at hown3; have hb3 : Below w2.heap.size w2 w3 := hB3.grown hgrow3 (by simp) (fun k hk => by cases hk; exact Nat.le_refl _)))
  go_loopw [8] (fun v8 wr => PadRel w2.heap.size w2 l v8 wr) (fun v8 _ => 6000 - lenOf v8)
  case atStart => exact ⟨0, by rw [Hlen.out]; simpa using hown3, hb3, by omega, Lib.hid (by omega)⟩
  case round =>
    clear hown3 hgrow3 hb3 hB3 hA3 hgrow1 hgrow2 hown1 hB1 hA0 hB0
    obtain ⟨j, hown, hbr, hj, H⟩ := hrel
    rw [Hlen.out] at hown
    have hF : ∀ c ∈ l ++ List.replicate j 0, 0 ≤ c ∧ c ≤ 255 := fun c hc => (List.mem_append.1 hc).elim (Hf.out c) (fun h => by obtain ⟨_, rfl⟩ := List.mem_replicate.1 h; omega)
    have HF := Lib.hid hF
    clear hF
    obtain ⟨a8, c8, rfl, h8⟩ := BytesIn.own hown HF.out
    have H8 := Lib.hid h8
    clear h8
    by_cases hz : (na + nb + j) % 4 = 0
    · have hzb : (((na : Int) + (nb : Int) + (j : Int)) % 4 != 0) = false := by simp; omega
      obtain ⟨F, hFe⟩ : ∃ F, l ++ List.replicate j 0 = F := ⟨_, rfl⟩
      rw [hFe] at HF H8 hown
      have hFl : F.length = na + nb + j := by rw [← hFe, List.length_append, Hlen.out, List.length_replicate]
      have hw : words F = words l := by
        rcases H.out with ⟨_, rfl⟩ | ⟨h1, h2⟩
        · rw [← hFe]; simp
        · rw [← hFe]; exact words_pad l.length l j (Nat.le_refl _) h1 h2
      have hh : hashOf s.data.toList l = hashOf s.data.toList F := by unfold hashOf; rw [hw]
      have hta : F.take na = la := by
        rw [← hFe, ← HL.out, List.append_assoc, List.take_left' HA.out.len]
      have hsp := hash_split s.data.toList F na h4 (by omega)
      rw [hta] at hsp
      have HH := Lib.hid (And.intro hh (And.intro hsp hFl))
      have HFl := Lib.hid hFl
      clear hh hsp hFe hw hta hFl
      have hbra : BytesIn wr a na ca la := HA.out.below (hb2.trans (hbr.mono hb2.size))
      have Hbra := Lib.hid hbra
      clear hbra H
      have h0b := word_bd (words la) _ (name_bd (s.data.toList.map fun c => (c.toNat : Int)) 0 (by omega))
      have H0b : Hid (0 ≤ hashOf s.data.toList la ∧ hashOf s.data.toList la ≤ 4294967295) := h0b
      clear h0b
      go_wp2_with (go_at_call 9; refine (impl_hash s a na ca la _ hs (by omega) Hbra.out).mono ?_; rintro e w4 ⟨rfl, hb4⟩)
      go_loopw [9, 10] (fun v9 v10 wx => FoldRel F na (hashOf s.data.toList F) w4 v9 v10 wx) (fun _ v10 _ => 6000 - (intOf v10).toNat)
      case atStart => exact ⟨0, hashOf s.data.toList la, by have := HFl.out; omega, rfl, rfl, H0b.out.1, H0b.out.2, ⟨0, rfl⟩, Lib.hid (by simpa using HH.out.2.1)⟩
      case round =>
        obtain ⟨i, h, hi, rfl, rfl, h0, h1, ⟨nd, rfl⟩, H⟩ := hrel
        have hFl := HFl.out
        by_cases hlt : na + i * 4 < na + nb + j
        · have h8 : BytesIn w4 a8 (na + nb + j) c8 F := H8.out.below hb4
          obtain ⟨b8, o8, rfl, hb8, hc8⟩ := h8.form (by omega)
          have hle := h8.le
          have hm4 : i * 4 + 4 ≤ nb + j := by omega
          have q0 := hc8 (na + i * 4) _ (List.getElem?_eq_getElem (by omega))
          have q1 := hc8 (na + i * 4 + 1) _ (List.getElem?_eq_getElem (by omega))
          have q2 := hc8 (na + i * 4 + 2) _ (List.getElem?_eq_getElem (by omega))
          have q3 := hc8 (na + i * 4 + 3) _ (List.getElem?_eq_getElem (by omega))
          have f0 := HF.out F[na + i * 4] (List.getElem_mem _)
          have f1 := HF.out F[na + i * 4 + 1] (List.getElem_mem _)
          have f2 := HF.out F[na + i * 4 + 2] (List.getElem_mem _)
          have f3 := HF.out F[na + i * 4 + 3] (List.getElem_mem _)
          have hw := words_four (F.drop (na + i * 4)) (by simp; omega)
          simp only [List.getElem_drop, List.drop_drop, Nat.add_zero] at hw
          have HW := Lib.hid hw
          clear hw h8 hc8
          rw [← Nat.add_assoc o8 (na + i * 4) 1] at q1
          rw [← Nat.add_assoc o8 (na + i * 4) 2] at q2
          rw [← Nat.add_assoc o8 (na + i * 4) 3] at q3
          obtain ⟨f00, f01⟩ := f0
          obtain ⟨f10, f11⟩ := f1
          obtain ⟨f20, f21⟩ := f2
          obtain ⟨f30, f31⟩ := f3
          generalize F[na + i * 4] = x0 at *
          generalize F[na + i * 4 + 1] = x1 at *
          generalize F[na + i * 4 + 2] = x2 at *
          generalize F[na + i * 4 + 3] = x3 at *
          have Hi := Lib.hid hi
          clear hFl hi
          have u1 : ¬ c8 = na + i * 4 := by omega
          have z0 : (0 : Int) < ((na + nb + j - (na + i * 4) : Nat) : Int) := by omega
          have z1 : (1 : Int) < ((na + nb + j - (na + i * 4) : Nat) : Int) := by omega
          have z2 : (2 : Int) < ((na + nb + j - (na + i * 4) : Nat) : Int) := by omega
          have z3 : (3 : Int) < ((na + nb + j - (na + i * 4) : Nat) : Int) := by omega
          go_wp2_with fail
          go_quiet (fail)
          go_wp2_with fail
          go_roundw
          case rel =>
            have hq := H.out
            rw [HW.out, List.foldl_cons] at hq
            have hbd := hWord_bd h (w32 x0 x1 x2 x3)
            exact ⟨i + 1, hWord h (w32 x0 x1 x2 x3), by have := HFl.out; omega, rfl, by go_num, hbd.1, hbd.2, ⟨nd + nq, by simp⟩, Lib.hid (by rw [show na + (i + 1) * 4 = na + i * 4 + 4 by omega]; exact hq)⟩
          case measure => simp [intOf]; omega
        · have hq : h = hashOf s.data.toList F := by
            have := H.out
            rwa [List.drop_of_length_le (by omega), words, List.foldl_nil] at this
          have hall4 : BytesIn (w4.drewN nd) a2 (na + nb) c2 l := ((hAll.out.below hbr).below hb4).drewN nd
          have hall5 : BytesIn (w4.drewN nd) a8 (na + nb + j) c8 F := (H8.out.below hb4).drewN nd
          obtain ⟨R, hR⟩ : ∃ R, hashOf s.data.toList F = R := ⟨_, rfl⟩
          rw [hR] at hq
          subst hq
          have HR := Lib.hid (And.intro (HH.out.1.trans hR) hR)
          have X4 := Lib.hid (And.intro hall4 hall5)
          have hib : i * 4 ≤ 5010 := by omega
          have hni : ¬ ((i : Int) * 4 + 4 ≤ (na : Int) + (nb : Int) + (j : Int) - (na : Int)) := by omega
          clear H hR hall4 hall5 hFl hi
          go_wp2_with fail
          refine (impl_hash s a2 (na + nb) c2 l _ hs (by omega) (by exact X4.out.1)).mono ?_
          rw [HR.out.1]
          rintro e w5 ⟨rfl, hb5⟩
          have X5 := Lib.hid (X4.out.2.below (w' := w5) (by exact hb5))
          go_wp2_with fail
          refine (impl_hash s a8 (na + nb + j) c8 F _ hs (by omega) X5.out).mono ?_
          rw [HR.out.2]
          rintro e w6 ⟨rfl, hb6⟩
          go_wp2_with fail
          refine (impl_hash ⟨#[97]⟩ none 0 0 [] _ (by decide) (by omega) ⟨rfl, fun _ => ⟨rfl, rfl⟩, Nat.le_refl _, Nat.zero_le _, fun x hx => (by cases hx), fun c hc => (by cases hc)⟩).mono ?_
          rw [show hashOf (ByteArray.mk #[97]).data.toList [] = 97 from one_hash]
          rintro e w7 ⟨rfl, hb7⟩
          go_wp2_with fail
          go_ret
          have s1 : w.heap.size ≤ w2.heap.size := hb2.size
          have s2 : w2.heap.size ≤ wr.heap.size := hbr.size
          have s3 : wr.heap.size ≤ w4.heap.size := hb4.size
          have s5 : w4.heap.size ≤ w5.heap.size := hb5.size
          have s6 : w5.heap.size ≤ w6.heap.size := hb6.size
          have k5 : Below w4.heap.size w4 w5 := (below_drewN (Below.refl _ _) nd).trans hb5
          exact ⟨rfl, (hb2.trans (hbr.mono s1)).trans ((hb4.mono (by omega)).trans ((k5.mono (by omega)).trans ((hb6.mono (by omega)).trans (hb7.mono (by omega)))))⟩
    · have hzb : (((na : Int) + (nb : Int) + (j : Int)) % 4 != 0) = true := by simp; omega
      go_wp2_with (at_builtin; refine wpList_append_own _ rfl (.tmp 54) (.tmp 55) 26 rfl w2.heap.size 5 i0 (.int .u8 0) 1 1 Try.underlying26 hi hz0 hz1 hz2 rfl (by decide) _ (na + nb + j) _ rfl (hown.alloc _) ⟨wr.heap.size, 0, none⟩ 1 1 [.int .u8 0] rfl rfl (cell_one_new _ _ _) (by intro u hu; simp at hu; subst hu; rfl) (by unfold maxLen; omega) (by omega) (by have := hbr.size; simp; omega) ?_; intro v' w4 hown4 hgrow4 _)
      go_roundw
      case rel =>
        refine ⟨j + 1, ?_, (hbr.alloc hbr.size _).grown hgrow4 (by have := hbr.size; simp; omega) (fun k hk => (hown.lt k hk).1), ?_, Lib.hid ?_⟩
        · rw [Hlen.out, List.replicate_succ', ← List.append_assoc, List.map_append]; exact hown4
        · rcases H.out with ⟨h1, h2⟩ | ⟨h1, h2⟩ <;> (have := Hlen.out; omega)
        · rcases H.out with ⟨h1, h2⟩ | ⟨h1, h2⟩ <;> (have := Hlen.out; omega)
      case measure =>
        have e : lenOf v' = na + nb + j + 1 := by
          rcases hown4.2 with ⟨rfl, h⟩ | ⟨g, cap, cur, rfl, _⟩
          · omega
          · rfl
        show 6000 - lenOf v' < 6000 - (na + nb + j)
        omega


set_option maxHeartbeats 4000000 in
theorem hj_walk (w : World) (s : ByteArray) (_w0 : s.size ≤ maxLen) (a : Option Addr) (na ca : Nat) (za : List Int) (ha : IsRow .u8 w a na ca za) (b : Option Addr) (nb cb : Nat) (zb : List Int) (hb : IsRow .u8 w b nb cb zb) :
    Calls Try.prog 4 #[.string s, .slice a na ca, .slice b nb cb] w fun e w' => e = .returned (.bool true) ∧ Below w.heap.size w w' := by
  have hA := BytesIn.of_row ha
  have hB := BytesIn.of_row hb
  have m1 := hA.le
  have m2 := hA.max
  have m3 := hB.le
  have m4 := hB.max
  unfold maxLen at _w0 m2 m4
  clear ha hb
  by_cases c1 : 2147483647 < s.size
  · go_enter Try.func4, Try.ntmps4
    go_wp2
    go_ret
    exact ⟨rfl, Below.refl _ _⟩
  by_cases c2 : 2147483647 < na
  · go_enter Try.func4, Try.ntmps4
    go_wp2
    go_ret
    exact ⟨rfl, Below.refl _ _⟩
  by_cases c3 : 2147483647 < nb
  · go_enter Try.func4, Try.ntmps4
    go_wp2
    go_ret
    exact ⟨rfl, Below.refl _ _⟩
  by_cases c4 : na % 4 = 0
  · have hm : (((na : Int) % 4) != 0) = false := by simp; omega
    by_cases c5 : 5000 < na + nb
    · have c5' : (5000 : Int) < (na : Int) + (nb : Int) := by omega
      go_enter Try.func4, Try.ntmps4
      go_wp2
      go_ret
      exact ⟨rfl, Below.refl _ _⟩
    by_cases c6 : 5000 < s.size
    · have c5' : ¬ (5000 : Int) < (na : Int) + (nb : Int) := by omega
      go_enter Try.func4, Try.ntmps4
      go_wp2
      go_ret
      exact ⟨rfl, Below.refl _ _⟩
    exact hj_in s a na ca _ b nb cb _ w (by omega) hA hB c4 (by omega)
  · have hm : (((na : Int) % 4) != 0) = true := by simp; omega
    go_enter Try.func4, Try.ntmps4
    go_wp2
    go_ret
    exact ⟨rfl, Below.refl _ _⟩

end Go.Proofs.Ytjpahogldfmaeaa
