/- path.Split: a name is cut behind its last slash. -/
import Derived.Test.YtfanlhkpblemgaaProg
import Derived.Test.YtfanlhkpblemgaaRd
import Derived.WalkSmall
import Derived.WalkKit
import Derived.ProofKit
import Derived.Lib.Hide
import Derived.Lib.IndexBytes
import Derived.LoopTactic
import Derived.BigQuiet
import Derived.Deep.QuietTactic
import Derived.WalkSpells
import Derived.KernelRfl
import Derived.Outline
import Derived.IntWalk
namespace Go.Proofs.Ytfanlhkpblemgaa
open Go.ChangeShapes Go.WideShapes Go.ChangeAt Go.RowKit Go.Rd
set_option linter.unusedVariables false

namespace Sp
/-- Where the part behind the last slash begins. -/
def IsCut (l : List UInt8) (k : Nat) : Prop := k ≤ l.length ∧ 47 ∉ l.drop k ∧ (k = 0 ∨ l[k - 1]? = some 47)
def cutPos (l : List UInt8) : Nat := l.length - (l.reverse.takeWhile (· != 47)).length
theorem cut_unique {l : List UInt8} {j k : Nat} (hj : IsCut l j) (hk : IsCut l k) : j = k := by
  have key : ∀ {a b : Nat}, IsCut l a → IsCut l b → a < b → False := by
    intro a b ha hb hlt
    obtain ⟨_, h1, _⟩ := ha
    obtain ⟨h2, _, h3⟩ := hb
    have h4 : l[b - 1]? = some 47 := h3.resolve_left (by omega)
    apply h1
    rw [List.mem_iff_getElem?]
    exact ⟨b - 1 - a, by rw [List.getElem?_drop, show a + (b - 1 - a) = b - 1 by omega]; exact h4⟩
  rcases Nat.lt_trichotomy j k with h | h | h
  · exact (key hj hk h).elim
  · exact h
  · exact (key hk hj h).elim
theorem cut_is (l : List UInt8) : IsCut l (cutPos l) := by
  have hspec : ∀ m : List UInt8, 47 ∉ m.takeWhile (· != 47) ∧ ((m.takeWhile (· != 47)).length = m.length ∨ m[(m.takeWhile (· != 47)).length]? = some 47) := by
    intro m
    induction m with
    | nil => simp
    | cons c m ih =>
      by_cases hc : c = 47
      · subst hc; simp
      · have hb : (c != 47) = true := by simpa using hc
        rw [List.takeWhile_cons, if_pos hb]
        refine ⟨?_, ?_⟩
        · simp only [List.mem_cons, not_or]
          exact ⟨fun e => hc e.symm, ih.1⟩
        · rcases ih.2 with h | h
          · left; simp [h]
          · right; simpa using h
  have hle : (l.reverse.takeWhile (· != 47)).length ≤ l.length := by
    have := (List.takeWhile_sublist (p := (· != (47 : UInt8))) (l := l.reverse)).length_le
    simpa using this
  obtain ⟨h1, h2⟩ := hspec l.reverse
  have hpre : l.drop (cutPos l) = (l.reverse.takeWhile (· != 47)).reverse := by
    have hp : l.reverse.takeWhile (· != 47) = l.reverse.take (l.reverse.takeWhile (· != 47)).length := by
      have := List.takeWhile_prefix (p := (· != (47 : UInt8))) (l := l.reverse)
      exact (List.prefix_iff_eq_take.1 this)
    rw [hp, List.reverse_take, List.reverse_reverse]
    unfold cutPos
    congr 1
    simp
  refine ⟨by unfold cutPos; omega, ?_, ?_⟩
  · rw [hpre]; simpa using h1
  · by_cases h0 : cutPos l = 0
    · exact .inl h0
    · right
      rcases h2 with h | h
      · exfalso; apply h0; unfold cutPos; rw [h]; simp
      · have hlt : (l.reverse.takeWhile (· != 47)).length < l.length := by unfold cutPos at h0; omega
        rw [List.getElem?_reverse hlt] at h
        rw [← h]
        congr 1
        unfold cutPos
        omega
/-- The part behind the last slash, and the part ahead of it, the slash with it. -/
def base (s : ByteArray) : ByteArray := s.extract (cutPos s.data.toList) s.size
def dir (s : ByteArray) : ByteArray := s.extract 0 (cutPos s.data.toList)

theorem size_of (a : ByteArray) : a.size = a.data.toList.length := by simp
/-- The state of the search. -/
def Back (s : ByteArray) (v5 : Value) : Prop := (∃ m : Nat, v5 = .int .i64 m ∧ m < s.size ∧ Hid (47 ∉ s.data.toList.drop (m + 1))) ∨ (v5 = .int .i64 (-1) ∧ Hid (47 ∉ s.data.toList))
theorem back_start (s : ByteArray) : Back s (.int .i64 ((s.size : Int) - 1)) := by
  by_cases h : s.size = 0
  · right
    have : s.data.toList = [] := List.eq_nil_of_length_eq_zero (by rw [← size_of]; exact h)
    exact ⟨by rw [h]; rfl, Lib.hid (by rw [this]; simp)⟩
  · left
    refine ⟨s.size - 1, by congr 1; omega, by omega, Lib.hid ?_⟩
    rw [List.drop_of_length_le (by rw [← size_of]; omega)]
    simp
theorem back_more {s : ByteArray} {m : Nat} (hm : m < s.size) (h : 47 ∉ s.data.toList.drop m) : Back s (.int .i64 ((m : Int) - 1)) := by
  by_cases h0 : m = 0
  · subst h0
    right
    exact ⟨rfl, Lib.hid (by simpa using h)⟩
  · left
    refine ⟨m - 1, by congr 1; omega, by omega, Lib.hid ?_⟩
    rw [show m - 1 + 1 = m by omega]
    exact h
def backMeas (v5 : Value) : Nat := (intOf v5 + 1).toNat
/-- The place of the last slash. -/
def LastAt (s : ByteArray) (w : World) (e : Ending) (w' : World) : Prop := e = .returned (.int .i64 ((cutPos s.data.toList : Int) - 1)) ∧ w = w'
theorem drop_more {l : List UInt8} {k : Nat} (hk : k < l.length) (h : 47 ∉ l.drop (k + 1)) (hc : l[k] ≠ 47) : 47 ∉ l.drop k := by
  rw [List.drop_eq_getElem_cons hk]
  simp only [List.mem_cons, not_or]
  exact ⟨fun e => hc e.symm, h⟩
theorem byte_at (s : ByteArray) (k : Nat) (h : k < s.size) : s.data.toList[k]'(by simpa using h) = s[k] := by simp; rfl
set_option maxHeartbeats 1000000 in
theorem last_any (s : ByteArray) (w : World) (hs : s.size ≤ 4294967296) : Calls Try.prog 34 #[.string s, .int .u8 47] w (LastAt s w) := by
  go_enter Try.func34, Try.ntmps34
  go_wp2
  go_loop [5] (fun v5 => Back s v5) (fun v5 => backMeas v5)
  case atStart => exact back_start s
  case round =>
    rcases hrel with ⟨m, rfl, hm, hno⟩ | ⟨rfl, hno⟩
    · have hm' : m < s.data.toList.length := by rw [← size_of]; exact hm
      by_cases c : ((s[m]'hm).toNat : Int) = 47
      · have cb : (((s[m]'hm).toNat : Int) == 47) = true := by simpa using c
        have e47 : s.data.toList[m] = 47 := by rw [byte_at s m hm]; apply UInt8.toNat_inj.1; show (s[m]'hm).toNat = 47; omega
        have hcut : ((cutPos s.data.toList : Nat) : Int) - 1 = (m : Int) := by
          rw [← cut_unique (show IsCut s.data.toList (m + 1) from ⟨by omega, hno.out, .inr (by rw [Nat.add_sub_cancel, List.getElem?_eq_getElem hm', e47])⟩) (cut_is _)]
          omega
        have HC := Lib.hid hcut
        clear c e47 hcut hm'
        go_wp2_with fail
        go_ret
        exact ⟨by rw [HC.out]; rfl, rfl⟩
      · have cb : (((s[m]'hm).toNat : Int) == 47) = false := by simpa using c
        have e47 : s.data.toList[m] ≠ 47 := by
          intro h
          apply c
          rw [← byte_at s m hm, h]; rfl
        have hb := back_more hm (drop_more hm' hno.out e47)
        have HB := Lib.hid hb
        clear c e47 hm' hb
        go_wp2_with fail
        go_round
        case rel => exact HB.out
        case measure => simp [intOf, backMeas]
    · have hcut : ((cutPos s.data.toList : Nat) : Int) - 1 = -1 := by
        rw [← cut_unique (show IsCut s.data.toList 0 from ⟨Nat.zero_le _, by simpa using hno.out, .inl rfl⟩) (cut_is _)]
        rfl
      have HC := Lib.hid hcut
      clear hcut
      go_wp2_with fail
      go_ret
      exact ⟨by rw [HC.out]; rfl, rfl⟩
/-- The two parts. -/
def Parts (s : ByteArray) (w : World) (e : Ending) (w' : World) : Prop := e = .returned (.tuple #[.string (dir s), .string (base s)]) ∧ ∃ n, w' = w.drewN n
set_option maxHeartbeats 1000000 in
theorem split_any (s : ByteArray) (w : World) (hs : s.size ≤ 4294967296) : Calls Try.prog 30 #[.string s] w (Parts s w) := by
  obtain ⟨k, hk⟩ : ∃ k, k = cutPos s.data.toList := ⟨_, rfl⟩
  have hks : k ≤ s.size := by rw [hk, size_of]; exact (cut_is _).1
  have hl := last_any s w hs
  have hd : dir s = s.extract 0 k := by rw [hk]; rfl
  have hb : base s = s.extract k s.size := by rw [hk]; rfl
  unfold LastAt at hl
  rw [← hk] at hl
  have HL := Lib.hid hl
  have HD := Lib.hid hd
  have HB := Lib.hid hb
  clear hk hl hd hb
  go_enter Try.func30, Try.ntmps30
  go_wp2_with fail
  refine HL.out.mono ?_
  rintro e w1 ⟨rfl, rfl⟩
  have q1 : (k : Int) - 1 + 1 = (k : Int) := by omega
  have q2 : IntKind.i64.wrap ((k : Int) - 1 + 1) = (k : Int) := by rw [q1]; exact IntWalk.i64_in _ (by omega)
  go_wp2_with fail
  go_quiet (fail)
  go_wp2_with fail
  go_ret2
  exact ⟨by rw [HD.out, HB.out]; rfl, _, rfl⟩
/-- What MemBase answers. -/
def BaseOf (s : ByteArray) (w : World) (e : Ending) (w' : World) : Prop := e = .returned (.string (base s)) ∧ w = w'
set_option maxHeartbeats 1000000 in
theorem base_any (s : ByteArray) (w : World) (hs : s.size ≤ 4294967296) : Calls Try.prog 16 #[.string s] w (BaseOf s w) := by
  go_enter Try.func16, Try.ntmps16
  go_wp2
  go_loop [3] (fun v5 => Back s v5) (fun v5 => backMeas v5)
  case atStart => exact back_start s
  case round =>
    rcases hrel with ⟨m, rfl, hm, hno⟩ | ⟨rfl, hno⟩
    · have hm' : m < s.data.toList.length := by rw [← size_of]; exact hm
      by_cases c : ((s[m]'hm).toNat : Int) = 47
      · have cb : (((s[m]'hm).toNat : Int) == 47) = true := by simpa using c
        have e47 : s.data.toList[m] = 47 := by rw [byte_at s m hm]; apply UInt8.toNat_inj.1; show (s[m]'hm).toNat = 47; omega
        have hcut : base s = s.extract (m + 1) s.size := by
          unfold base
          rw [← cut_unique (show IsCut s.data.toList (m + 1) from ⟨by omega, hno.out, .inr (by rw [Nat.add_sub_cancel, List.getElem?_eq_getElem hm', e47])⟩) (cut_is _)]
        have hd : decide (m < s.size) = true := decide_eq_true hm
        have HC := Lib.hid hcut
        clear c e47 hcut hm'
        go_wp2_with fail
        go_ret
        exact ⟨by rw [HC.out]; rfl, rfl⟩
      · have cb : (((s[m]'hm).toNat : Int) == 47) = false := by simpa using c
        have e47 : s.data.toList[m] ≠ 47 := by
          intro h
          apply c
          rw [← byte_at s m hm, h]; rfl
        have hb := back_more hm (drop_more hm' hno.out e47)
        have HB := Lib.hid hb
        clear c e47 hm' hb
        go_wp2_with fail
        go_round
        case rel => exact HB.out
        case measure => simp [intOf, backMeas]
    · have hcut : base s = s := by
        unfold base
        rw [← cut_unique (show IsCut s.data.toList 0 from ⟨Nat.zero_le _, by simpa using hno.out, .inl rfl⟩) (cut_is _)]
        exact ByteArray.extract_zero_size
      have HC := Lib.hid hcut
      clear hcut
      go_wp2_with fail
      go_ret
      exact ⟨by rw [HC.out]; rfl, rfl⟩
end Sp
end Go.Proofs.Ytfanlhkpblemgaa
