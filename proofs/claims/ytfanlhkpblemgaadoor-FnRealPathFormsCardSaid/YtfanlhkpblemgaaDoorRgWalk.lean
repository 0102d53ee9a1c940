/- FnRealPathForms: the walk's facts out of the plain law. -/
import Derived.Test.YtfanlhkpblemgaaDoorRfWalk
namespace Go.Proofs.YtfanlhkpblemgaaDoor
open Go.ChangeShapes Go.WideShapes Go.ChangeAt Go.RowKit Go.Rd Go.Pt

theorem two_data (D n : ByteArray) (l : List UInt8) (hD : D.data.toList = l) : (two D n).data.toList = if n.data.toList = [] then l else l ++ 47 :: n.data.toList := by
  unfold two
  split
  · rename_i h
    rw [cat_data, cat_data, hD, h]
    simp
  · rw [cat_data, cat_data, cat_data, hD]
    simp
theorem two_len (D n : ByteArray) : (two D n).data.toList.length ≤ D.size + n.size + 1 := by
  rw [two_data D n _ rfl]
  have e1 := size_of D
  have e2 := size_of n
  split <;> (try simp only [List.length_append, List.length_cons]) <;> omega

theorem below1_of (p n : ByteArray) (L G : List (List UInt8)) (hp : Go.Lib.Pa.cleanEls p.data.toList = 47 :: inter L) (hn : Adds n.data.toList G) (hL : ∀ x ∈ L, Fine x) (hG : ∀ x ∈ G, Fine x) (hps : p.size ≤ 1000) (hns : n.size ≤ 1000) (hd : (strB (47 :: inter L)).size ≤ 1500) :
    Below1 p n (strB (47 :: inter L)) (strB (47 :: inter (L ++ G))) := by
  have hJ : Go.Lib.Pa.cleanEls (two (strB (47 :: inter L)) n).data.toList = 47 :: inter (L ++ G) := by
    rw [two_data _ n _ (strB_data _)]
    exact joined_clean hL hn
  refine ⟨by rw [hp], ?_, ?_, ?_, hd, ?_, hps, hns⟩
  · rw [join_two_eq _ _ (by rw [strB_data]; simp), hJ]
  · rw [strB_data, clean_again]
    intro x hx
    rcases List.mem_append.1 hx with h | h
    · exact hL x h
    · exact hG x h
  · rw [strB_data, strB_data]; exact prefix_both L G
  · have h1 := clean_len (two (strB (47 :: inter L)) n).data.toList
    have h2 := two_len (strB (47 :: inter L)) n
    rw [hJ] at h1
    rw [size_of, strB_data]
    omega

theorem kept_good {n : List UInt8} (h : Level n) : kept n = good n := by
  have := adds_good h []
  unfold kept stack
  rw [this]
  simp

theorem forms_near (s t : ByteArray) (w : World) (a : Addr) (h3 : w.cell? ⟨3, 0, none⟩ = some (.iface 119 (.pointer (some a)))) (h3w : 3 < w.heap.size) (hs : s.size ≤ 200) (ht : t.size ≤ 200) (hroot : (s.data.toList.head? == some 47) = true) :
    Calls Tryd.prog 5 #[.string s, .string t] w fun e w' => e = .returned (.bool true) ∧ Below w.heap.size w w' := by
  obtain ⟨p, hp⟩ : ∃ p, s.data.toList = 47 :: p := by
    cases h : s.data.toList with
    | nil => rw [h] at hroot; simp at hroot
    | cons c t => rw [h] at hroot; simp at hroot; subst hroot; exact ⟨t, rfl⟩
  have hcl : Go.Lib.Pa.cleanEls s.data.toList = 47 :: inter (kept p) := by rw [hp, clean_kept]
  have hone : (⟨#[47]⟩ : ByteArray).data.toList = [47] := rfl
  have hN : Go.Lib.Pa.cleanEls (⟨#[47]⟩ ++ t : ByteArray).data.toList = 47 :: inter (kept t.data.toList) := by rw [cat_data]; exact clean_kept _
  have hd : (strB (47 :: inter (kept p))).size ≤ 202 := by
    have := clean_len s.data.toList
    rw [hcl, ← size_of] at this
    rw [size_of, strB_data]; omega
  have hNs : (strB (47 :: inter (kept t.data.toList))).size ≤ 203 := by
    have := clean_len (⟨#[47]⟩ ++ t : ByteArray).data.toList
    rw [hN, cat_data, List.length_append, ← size_of t] at this
    have l1 : (⟨#[47]⟩ : ByteArray).data.toList.length = 1 := rfl
    rw [size_of, strB_data]; omega
  refine forms_with s t (strB (47 :: inter (kept p))) (strB (47 :: inter (kept t.data.toList))) (strB (47 :: inter (kept p ++ good t.data.toList))) w a h3 h3w hs ht (Lib.hid hroot) (kept p) (good t.data.toList) (Lib.hid (kept_fine p)) (Lib.hid (strB_data _)) (Lib.hid (strB_data _)) (by omega) (Lib.hid (by rw [hcl])) (Lib.hid (by rw [hN])) ?_ ?_
  · rw [size_of, cat_data, List.length_append, ← size_of t]
    have l1 : (⟨#[47]⟩ : ByteArray).data.toList.length = 1 := rfl
    omega
  · intro h
    refine ⟨below1_of s t _ _ hcl (adds_good h) (kept_fine p) (good_fine h) (by omega) (by omega) (by omega), below1_of _ _ _ _ (by rw [strB_data]; exact clean_again (kept_fine p)) (by rw [strB_data, kept_good h]; exact adds_inter (good_fine h)) (kept_fine p) (good_fine h) (by omega) (by omega) (by omega), below1_of _ _ _ _ ?_ ?_ (kept_fine p) (good_fine h) ?_ ?_ (by omega)⟩
    · rw [cat_data, hp, ← kept_dot p, ← clean_kept]
      rfl
    · have e : (⟨#[46, 47]⟩ ++ t ++ ⟨#[47]⟩ : ByteArray).data.toList = [46] ++ 47 :: (t.data.toList ++ 47 :: []) := by
        rw [cat_data, cat_data]
        have : (⟨#[46, 47]⟩ : ByteArray).data.toList = [46, 47] := rfl
        rw [this, hone]
        simp
      rw [e]
      exact adds_dots (adds_good h)
    · rw [size_of, cat_data, List.length_append, ← size_of s]
      have l1 : (⟨#[47, 46]⟩ : ByteArray).data.toList.length = 2 := rfl
      omega
    · rw [size_of, cat_data, cat_data, List.length_append, List.length_append, ← size_of t]
      have l1 : (⟨#[46, 47]⟩ : ByteArray).data.toList.length = 2 := rfl
      have l2 : (⟨#[47]⟩ : ByteArray).data.toList.length = 1 := rfl
      omega

theorem forms_free (s t : ByteArray) (w : World) (hs : s.size ≤ 200) (ht : t.size ≤ 200) (hroot : (s.data.toList.head? == some 47) = false) :
    Calls Tryd.prog 5 #[.string s, .string t] w fun e w' => e = .returned (.bool true) ∧ Below w.heap.size w w' := by
  have H := Lib.hid hroot
  clear hroot
  go_enter Tryd.func5, Tryd.ntmps5
  go_wp2_with (go_at_call 12; refine (rooted_any _ _).mono ?_; rw [H.out]; rintro e w' ⟨rfl, rfl⟩)
  go_ret
  exact ⟨rfl, Below.refl _ _⟩

theorem forms_far (s t : ByteArray) (w : World) (c1 : ¬ (s.size ≤ 200 ∧ t.size ≤ 200)) :
    Calls Tryd.prog 5 #[.string s, .string t] w fun e w' => e = .returned (.bool true) ∧ Below w.heap.size w w' := by
  by_cases d1 : 2147483647 < s.size
  · have e1 : decide (2147483647 < (s.size : Int)) = true := by simp; omega
    go_enter Tryd.func5, Tryd.ntmps5
    go_wp2
    go_ret
    exact ⟨rfl, Below.refl _ _⟩
  · have e1 : decide (2147483647 < (s.size : Int)) = false := by simp; omega
    by_cases d2 : 2147483647 < t.size
    · have e2 : decide (2147483647 < (t.size : Int)) = true := by simp; omega
      go_enter Tryd.func5, Tryd.ntmps5
      go_wp2
      go_ret
      exact ⟨rfl, Below.refl _ _⟩
    · have e2 : decide (2147483647 < (t.size : Int)) = false := by simp; omega
      by_cases d3 : 200 < s.size
      · have e3 : decide (200 < (s.size : Int)) = true := by simp; omega
        go_enter Tryd.func5, Tryd.ntmps5
        go_wp2
        go_ret
        exact ⟨rfl, Below.refl _ _⟩
      · have e3 : decide (200 < (s.size : Int)) = false := by simp; omega
        have e4 : decide (200 < (t.size : Int)) = true := by simp; omega
        go_enter Tryd.func5, Tryd.ntmps5
        go_wp2
        go_ret
        exact ⟨rfl, Below.refl _ _⟩

theorem gone_at_forms {w : World} (hL : laidMetH Tryd.prog Rows.fnRealPathFormsRow.laid w) : ∃ a, w.cell? ⟨3, 0, none⟩ = some (.iface 119 (.pointer (some a))) ∧ 3 < w.heap.size := by
  obtain ⟨a, s, h1, h2, _⟩ := sent_of_laid sent_types (laid := Rows.fnRealPathFormsRow.laid) hL "pub-marram/pub/afero/inner/os.ErrNotExist" [102, 105, 108, 101, 32, 100, 111, 101, 115, 32, 110, 111, 116, 32, 101, 120, 105, 115, 116] 3 (by kernel_rfl) (by kernel_rfl) (.tail _ (.head _))
  exact ⟨a, h1, h2⟩

theorem rf_walk (w : World) (p : ByteArray) (_ : p.size ≤ maxLen) (n : ByteArray) (_ : n.size ≤ maxLen) (hL : laidMetH Tryd.prog Rows.fnRealPathFormsRow.laid w) :
    Calls Tryd.prog 5 #[.string p, .string n] w fun e w' => e = .returned (.bool true) ∧ Below w.heap.size w w' := by
  by_cases c : p.size ≤ 200 ∧ n.size ≤ 200
  · cases h : (p.data.toList.head? == some 47) with
    | true =>
      obtain ⟨a, h3, h3w⟩ := gone_at_forms hL
      exact forms_near p n w a h3 h3w c.1 c.2 h
    | false => exact forms_free p n w c.1 c.2 h
  · exact forms_far p n w c
end Go.Proofs.YtfanlhkpblemgaaDoor
