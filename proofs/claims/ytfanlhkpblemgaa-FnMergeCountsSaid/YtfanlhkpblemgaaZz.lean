/- zzSort: the texts in increasing order. -/
import Derived.Test.YtfanlhkpblemgaaPFnMergeCountsx
import Derived.Lib.Strings
namespace Go.Proofs.Ytfanlhkpblemgaa
open Go.RowKit Go.Proofs.YtfanlhkpblemgaaW.PrintWords Go.Proofs.YtfanlhkpblemgaaW.PrintLast Go.Proofs.YtfanlhkpblemgaaW.PrintMore PFnMergeCounts
set_option linter.unusedVariables false

namespace Zz
/-- One text stands ahead of another one, or is it. -/
def Le (a b : ByteArray) : Prop := ¬ b.data.toList < a.data.toList
def Sorted (l : List ByteArray) : Prop := l.Pairwise Le
theorem bytes_less : ∀ (x y : List UInt8), Op.bytesLess x y = true ↔ x < y
  | [], [] => by simp [Op.bytesLess]
  | a :: x, [] => by simp [Op.bytesLess]
  | [], b :: y => by simp [Op.bytesLess]
  | a :: x, b :: y => by
    have ih := bytes_less x y
    unfold Op.bytesLess
    rw [List.cons_lt_cons_iff]
    simp only [Bool.or_eq_true, Bool.and_eq_true, decide_eq_true_eq, beq_iff_eq, ih]
theorem less_iff (a b : ByteArray) : Op.bytesLess a.toList b.toList = true ↔ a.data.toList < b.data.toList := by
  rw [bytes_less, Lib.toList_data, Lib.toList_data]
theorem rd_at (l : List ByteArray) (n : Nat) (h : n < l.length) : rdOf ByteArray.empty l (n : Int) = l[n] := by
  unfold rdOf
  simp [h]
theorem le_of_lt {a b : ByteArray} (h : a.data.toList < b.data.toList) : Le a b := fun h2 => List.lt_irrefl _ (List.lt_trans h h2)
theorem le_trans {a b c : ByteArray} (h1 : Le a b) (h2 : Le b c) : Le a c := by
  unfold Le at *
  simp only [List.not_lt] at *
  exact List.le_trans h1 h2
theorem set_two (P Q R : List ByteArray) (y e : ByteArray) : (((P ++ y :: e :: Q) ++ R).set (P.length + 1) y).set P.length e = (P ++ e :: y :: Q) ++ R := by
  simp
theorem sorted_mid {P Q : List ByteArray} {e : ByteArray} (h : Sorted (P ++ Q)) (h1 : ∀ p ∈ P, Le p e) (h2 : ∀ q ∈ Q, Le e q) : Sorted (P ++ e :: Q) := by
  unfold Sorted at *
  rw [List.pairwise_append] at *
  refine ⟨h.1, List.pairwise_cons.2 ⟨h2, h.2.1⟩, fun a ha b hb => ?_⟩
  rcases List.mem_cons.1 hb with rfl | hb
  · exact h1 a ha
  · exact h.2.2 a ha b hb
/-- A round of the outer loop, and of the inner one: e is carried down. -/
theorem inner_some : ∀ (n : Nat) (P Q R : List ByteArray) (e : ByteArray), P.length = n → Sorted (P ++ Q) → (∀ q ∈ Q, Le e q) → ((P ++ e :: Q) ++ R).length ≤ 4294967296 →
    (∀ (S : List ByteArray), Sorted S → S.Perm (P ++ e :: Q) → ∃ k r, afero_zzSort.l0 k (S ++ R) ((P.length + Q.length + 1 : Nat) : Int) = some r ∧ Sorted r ∧ r.Perm (S ++ R)) →
    ∃ k r, afero_zzSort.l1 k ((P ++ e :: Q) ++ R) ((P.length + Q.length : Nat) : Int) (P.length : Int) = some r ∧ Sorted r ∧ r.Perm ((P ++ e :: Q) ++ R) := by
  intro n
  induction n with
  | zero =>
    intro P Q R e hn hs hq hl hc
    obtain rfl : P = [] := List.eq_nil_of_length_eq_zero hn
    obtain ⟨k, r, h1, h2, h3⟩ := hc (e :: Q) (sorted_mid (P := []) hs (fun p hp => by cases hp) hq) (List.Perm.refl _)
    refine ⟨k + 1, r, ?_, h2, h3⟩
    unfold afero_zzSort.l1
    rw [if_neg (by simp)]
    have e1 : wrap64 ((([] : List ByteArray).length + Q.length : Nat) + 1 : Int) = ((([] : List ByteArray).length + Q.length + 1 : Nat) : Int) := by simp at hl; unfold wrap64; simp; omega
    rw [e1]
    exact h1
  | succ n ih =>
    intro P Q R e hn hs hq hl hc
    rcases List.eq_nil_or_concat P with rfl | ⟨P', y, rfl⟩
    · cases hn
    · rw [List.concat_eq_append] at *
      have hPl : (P' ++ [y]).length = P'.length + 1 := by simp
      have hP'n : P'.length = n := by rw [hPl] at hn; omega
      have elist : (P' ++ [y] ++ e :: Q) ++ R = (P' ++ y :: e :: Q) ++ R := by simp
      have hlen : ((P' ++ y :: e :: Q) ++ R).length = P'.length + Q.length + R.length + 2 := by simp; omega
      rw [elist, hlen] at hl
      have hr1 : rdOf ByteArray.empty ((P' ++ y :: e :: Q) ++ R) ((P'.length + 1 : Nat) : Int) = e := by
        rw [rd_at _ _ (by rw [hlen]; omega)]
        simp
      have hr2 : rdOf ByteArray.empty ((P' ++ y :: e :: Q) ++ R) ((P'.length : Nat) : Int) = y := by
        rw [rd_at _ _ (by rw [hlen]; omega)]
        simp
      have hw : wrap64 (((P'.length + 1 : Nat) : Int) - 1) = ((P'.length : Nat) : Int) := by unfold wrap64; omega
      rw [elist, hPl]
      by_cases hlt : e.data.toList < y.data.toList
      · have hs' : Sorted (P' ++ y :: Q) := by
          have : P' ++ [y] ++ Q = P' ++ y :: Q := by simp
          rwa [this] at hs
        have hq' : ∀ q ∈ y :: Q, Le e q := fun q hqm => by
          rcases List.mem_cons.1 hqm with rfl | hqm
          · exact le_of_lt hlt
          · exact hq q hqm
        obtain ⟨k, r, h1, h2, h3⟩ := ih P' (y :: Q) R e hP'n hs' hq' (by simp; omega) (fun S hS hp => by
          have := hc S hS (hp.trans (by
            have e1 : P' ++ [y] ++ e :: Q = P' ++ y :: e :: Q := by simp
            rw [e1]
            exact List.Perm.append_left _ (List.Perm.swap y e Q)))
          rw [hPl] at this
          have e2 : P'.length + 1 + Q.length + 1 = P'.length + (y :: Q).length + 1 := by simp; omega
          rwa [e2] at this)
        refine ⟨k + 1, r, ?_, h2, h3.trans (by exact List.Perm.append_right _ (List.Perm.append_left _ (List.Perm.swap y e Q)))⟩
        unfold afero_zzSort.l1
        rw [if_pos (by omega), if_pos (by omega), if_pos (by rw [hlen]; omega), hw, if_pos (by omega), if_pos (by rw [hlen]; omega), hr1, hr2, if_pos ((less_iff e y).2 hlt), Int.toNat_natCast, Int.toNat_natCast, set_two]
        have e2 : P'.length + 1 + Q.length = P'.length + (y :: Q).length := by simp; omega
        rw [e2]
        exact h1
      · have hall : ∀ p ∈ P' ++ [y], Le p e := by
          intro p hp
          rcases List.mem_append.1 hp with hp | hp
          · have hpy : Le p y := by
              have h1 := (List.pairwise_append.1 hs).1
              exact (List.pairwise_append.1 h1).2.2 p hp y (by simp)
            exact le_trans hpy hlt
          · obtain rfl := List.mem_singleton.1 hp
            exact hlt
        obtain ⟨k, r, h1, h2, h3⟩ := hc (P' ++ [y] ++ e :: Q) (sorted_mid hs hall hq) (List.Perm.refl _)
        rw [elist] at h1 h3
        rw [hPl] at h1
        refine ⟨k + 1, r, ?_, h2, h3⟩
        unfold afero_zzSort.l1
        rw [if_pos (by omega), if_pos (by omega), if_pos (by rw [hlen]; omega), hw, if_pos (by omega), if_pos (by rw [hlen]; omega), hr1, hr2, if_neg (fun h => hlt ((less_iff e y).1 h))]
        have e1 : wrap64 (((P'.length + 1 + Q.length : Nat) : Int) + 1) = ((P'.length + 1 + Q.length + 1 : Nat) : Int) := by unfold wrap64; omega
        rw [e1]
        exact h1
theorem outer_some : ∀ (R S : List ByteArray), Sorted S → (S ++ R).length ≤ 4294967296 → ∃ k r, afero_zzSort.l0 k (S ++ R) (S.length : Int) = some r ∧ Sorted r ∧ r.Perm (S ++ R)
  | [], S, hS, hl => by
    refine ⟨1, S ++ [], ?_, by simpa using hS, List.Perm.refl _⟩
    unfold afero_zzSort.l0
    rw [if_neg (by simp)]
  | e :: R, S, hS, hl => by
    obtain ⟨k, r, h1, h2, h3⟩ := inner_some S.length S [] R e rfl (by simpa using hS) (fun q hq => by cases hq) (by simpa using hl) (fun S' hS' hp => by
      have hl2 : S'.length = S.length + 1 := by have := hp.length_eq; simpa using this
      have := outer_some R S' hS' (by simp at hl ⊢; omega)
      rw [hl2] at this
      simpa using this)
    have e1 : S ++ [e] ++ R = S ++ e :: R := by simp
    rw [e1] at h1 h3
    refine ⟨k + 1, r, ?_, h2, h3⟩
    unfold afero_zzSort.l0
    rw [if_pos (by simp; omega)]
    simpa using h1
theorem sort_some (l : List ByteArray) (hl : l.length ≤ 4294967296) : ∃ k r, afero_zzSort.f k l = some r ∧ Sorted r ∧ r.Perm l := by
  cases l with
  | nil =>
    refine ⟨1, [], ?_, List.Pairwise.nil, List.Perm.refl _⟩
    unfold afero_zzSort.f afero_zzSort.l0
    rw [if_neg (by simp)]
  | cons e R =>
    obtain ⟨k, r, h1, h2, h3⟩ := outer_some R [e] (by unfold Sorted; simp) (by simpa using hl)
    exact ⟨k, r, h1, h2, h3⟩
end Zz
end Go.Proofs.Ytfanlhkpblemgaa
