/- What zzContains answers. -/
import Derived.Test.YtfanlhkpblemgaaDoorPFnContainsInx2
import Derived.Test.YtfanlhkpblemgaaDoorCkPlain
import Derived.Lib.IndexBytes
import Derived.Lib.RabinKarp
namespace Go.Proofs.YtfanlhkpblemgaaDoor
open Go Go.RowKit Go.Proofs.YtfanlhkpblemgaaDoor.PFnContainsIn

theorem piece_at (s t : ByteArray) (i : Nat) (hi : i + t.size ≤ s.size) : ((s.extract i (i + t.size)).toList = t.toList) ↔ OccAt s.data.toList t.data.toList i := by
  have e1 : s.size = s.data.toList.length := by show s.data.size = _; rw [Array.length_toList]
  have e2 : t.size = t.data.toList.length := by show t.data.size = _; rw [Array.length_toList]
  have h := Lib.occ_of_piece s t i hi
  rw [Lib.occAt_iff_take _ _ i (by omega)] at h
  unfold OccAt
  constructor
  · intro hh
    rw [hh] at h
    simp at h
    exact ⟨by omega, h⟩
  · intro ⟨_, hh⟩
    rw [hh] at h
    simp at h
    exact h
theorem index_from (s t : ByteArray) (hs : s.size ≤ 4294967296) (ht : t.size ≤ 4294967296) : ∀ (m i : Nat), s.size + 1 - i ≤ m → i ≤ s.size + 1 → (∀ j, j < i → ¬ OccAt s.data.toList t.data.toList j) →
    ∃ r, afero_zzIndex.l0 (m + 1) s t (i : Int) = some r ∧ (0 ≤ r ↔ Occ s.data.toList t.data.toList)
  | m, i, hm, hi, hno => by
    unfold afero_zzIndex.l0
    have e : wrap64 ((i : Int) + (t.size : Int)) = ((i + t.size : Nat) : Int) := by unfold wrap64; omega
    rw [e]
    by_cases h : i + t.size ≤ s.size
    · rw [if_pos (by omega), if_pos (by omega), if_pos (by omega), Int.toNat_natCast, Int.toNat_natCast]
      by_cases h2 : (s.extract i (i + t.size)).toList = t.toList
      · rw [if_pos h2]
        exact ⟨_, rfl, by simp; exact ⟨i, (piece_at s t i h).1 h2⟩⟩
      · rw [if_neg h2]
        have e2 : wrap64 ((i : Int) + 1) = ((i + 1 : Nat) : Int) := by unfold wrap64; omega
        rw [e2]
        match m with
        | 0 => omega
        | m + 1 =>
          refine index_from s t hs ht m (i + 1) (by omega) (by omega) (fun j hj => ?_)
          by_cases ej : j = i
          · subst ej
            exact fun ho => h2 ((piece_at s t j h).2 ho)
          · exact hno j (by omega)
    · rw [if_neg (by omega)]
      refine ⟨-1, rfl, ?_⟩
      constructor
      · intro hh; omega
      · rintro ⟨j, hj⟩
        exfalso
        have h3 : j + t.data.toList.length ≤ s.data.toList.length := hj.1
        simp only [Array.length_toList] at h3
        have e1 : s.size = s.data.size := rfl
        have e2 : t.size = t.data.size := rfl
        exact hno j (by omega) hj
theorem contains_some (s t : ByteArray) (hs : s.size ≤ 4294967296) (ht : t.size ≤ 4294967296) : ∃ k b, afero_zzContains.f k s t = some b ∧ (b = true ↔ Occ s.data.toList t.data.toList) := by
  obtain ⟨r, h1, h2⟩ := index_from s t hs ht (s.size + 1) 0 (by omega) (by omega) (fun j hj => by omega)
  refine ⟨s.size + 1 + 1, decide (r ≥ 0), ?_, by simpa using h2⟩
  have h3 : afero_zzIndex.f (s.size + 1 + 1) s t = some r := h1
  unfold afero_zzContains.f
  rw [h3]
  rfl
end Go.Proofs.YtfanlhkpblemgaaDoor
