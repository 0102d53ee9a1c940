/- The hash of an attribute, called by whatever of its doors. -/
import Derived.Test.YtjpahogldfmaeaaRows
import Derived.Test.YtjpahogldfmaeaaRd
import Derived.Test.YtjpahogldfmaeaaHaWalk
import Derived.Laws.IdiomCopy
import Derived.Laws.CopyOwn
import Derived.Deep.RegionLaw
import Derived.WalkSmall
import Derived.WalkKit
import Derived.ProofKit
import Derived.OpenShut
import Derived.Lib.Hide
import Derived.LoopTactic
import Derived.BigQuiet
import Derived.Deep.QuietTactic
import Derived.WalkSpells
namespace Go.Proofs.Ytjpahogldfmaeaa
open Go.ChangeShapes Go.WideShapes Go.ChangeAt Go.RowKit Go.Rd

set_option maxHeartbeats 400000 in
theorem hash_nil (s : ByteArray) (w : World) (hs : s.size ≤ 5000) :
    Calls Try.prog 19 #[.string s, .slice none 0 0] w fun e w' => e = .returned (.int .u32 (hashOf s.data.toList [])) ∧ Below w.heap.size w w' := by
  obtain ⟨N, hN⟩ : ∃ N, (s.data.toList.map fun c => (c.toNat : Int)).foldl hName 0 = N := ⟨_, rfl⟩
  have hret : hashOf s.data.toList [] = N := by unfold hashOf; rw [hN, words, List.foldl_nil]
  rw [hret]
  have HN := Lib.hid hN
  clear hN hret
  go_enter Try.func19, Try.ntmps19
  go_wp2_with fail
  go_loop [5, 6] (fun v5 v6 => NameRel s N v5 v6) (fun _ v6 => s.size - (intOf v6).toNat)
  case atStart => exact ⟨0, 0, by omega, rfl, rfl, by omega, by omega, by simpa using HN⟩
  case round =>
    obtain ⟨k, h, hk, rfl, rfl, h0, h1, H⟩ := hrel
    by_cases hlt : k < s.size
    · go_wp2_with fail
      go_round
      case rel =>
        have hq := H.out
        rw [drop_byte s k hlt, List.foldl_cons] at hq
        have hbd := hName_bd h (s[k].toNat : Int)
        exact ⟨k + 1, hName h (s[k].toNat : Int), by omega, rfl, by go_num, hbd.1, hbd.2, Lib.hid hq⟩
      case measure => simp [intOf]; omega
    · obtain rfl : k = s.size := by omega
      have hq : h = N := by
        have := H.out
        rwa [List.drop_of_length_le (by simp), List.map_nil, List.foldl_nil] at this
      subst hq
      clear H HN
      go_wp2_with fail
      refine wp_loop_rounds 1 ?_
      rw [rounds_succ]
      go_wp2_with fail
      go_ret
      exact ⟨rfl, Below.refl _ _⟩

theorem hash_own (s : ByteArray) (v : Value) (B n : Nat) (l : List Int) (w : World) (hs : s.size ≤ 5000) (hl : n ≤ 5010) (hown : w.ownsRow B 5 1 v n (l.map (Value.int .u8))) (hf : ∀ c ∈ l, 0 ≤ c ∧ c ≤ 255) :
    Calls Try.prog 19 #[.string s, v] w fun e w' => e = .returned (.int .u32 (hashOf s.data.toList l)) ∧ Below w.heap.size w w' := by
  rcases BytesIn.of_own hown hf with ⟨rfl, _, rfl⟩ | ⟨g, cap, rfl, h⟩
  · exact hash_nil s w hs
  · exact hash_any s g 0 n cap l w hs h hl

theorem door_hash (s : ByteArray) (v : Value) (B n : Nat) (l : List Int) (w : World) (hs : s.size ≤ 5000) (hl : n ≤ 5010) (hown : w.ownsRow B 5 1 v n (l.map (Value.int .u8))) (hf : Hid (∀ c ∈ l, 0 ≤ c ∧ c ≤ 255)) :
    Calls Try.prog 14 #[.string s, v] w fun e w' => e = .returned (.int .u32 (hashOf s.data.toList l)) ∧ Below w.heap.size w w' := by
  go_enter Try.func14, Try.ntmps14
  go_wp2_with (go_at_call 19; refine (hash_own s v B n l w hs hl hown hf.out).mono ?_; rintro e w' ⟨rfl, hb⟩)
  go_ret
  exact ⟨rfl, hb⟩

theorem Try.info5 : (Try.prog.info? 5).map (fun i => (i.zero, i.size, i.bytes)) = some (some (.int .u8 0), 1, 1) := by kernel_rfl

theorem impl_hash (s : ByteArray) (a : Option Addr) (n cap : Nat) (l : List Int) (w : World) (hs : s.size ≤ 5000) (hl : n ≤ 5010) (hv : BytesIn w a n cap l) :
    Calls Try.prog 9 #[.string s, .slice a n cap] w fun e w' => e = .returned (.int .u32 (hashOf s.data.toList l)) ∧ Below w.heap.size w w' := by
  obtain ⟨i0, hi, hz0, hz1, hz2⟩ := info_parts Try.info5
  have hS := Lib.hid hv.src
  have hF := Lib.hid hv.fits
  clear hv
  go_enter Try.func9, Try.ntmps9
  go_wp2_with (first | (at_builtin; refine append_src rfl _ _ 26 rfl w.heap.size 5 i0 (.int .u8 0) 1 1 Try.underlying26 hi hz0 hz1 hz2 rfl (by decide) _ 0 [] rfl (World.ownsRow_nil _ _ _ _) a n cap (l.map (Value.int .u8)) rfl hS.out.1 hS.out.2.1 hS.out.2.2.1 hS.out.2.2.2 (by unfold maxLen; omega) (by omega) (Nat.le_refl _) ?_; intro v' w1 hown1 hgrow1; rw [Nat.zero_add, List.nil_append] at hown1) | (go_at_call 14; refine (door_hash s _ _ _ _ _ hs hl hown1 hF).mono ?_; rintro e w' ⟨rfl, hb⟩))
  go_ret
  have hb1 : Below w.heap.size w w1 := (Below.refl _ _).grown hgrow1 (Nat.le_refl _) (fun k hk => by cases hk)
  exact ⟨rfl, hb1.trans (hb.mono hb1.size)⟩

end Go.Proofs.Ytjpahogldfmaeaa
