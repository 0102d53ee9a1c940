/- The walk of FnRealPath. -/
import Derived.Test.YtfanlhkpblemgaaDoorPnWalk
namespace Go.Proofs.YtfanlhkpblemgaaDoor
open Go.ChangeShapes Go.WideShapes Go.ChangeAt Go.RowKit Go.Rd Go.Pt

theorem clean_len (l : List UInt8) : (Go.Lib.Pa.cleanEls l).length ≤ l.length + 2 := by
  have h1 := tot_stack (l.head? == some 47) l
  have h2 := tot_inter ((Go.Lib.Pa.els l).foldl (Go.Lib.Pa.cleanStep (l.head? == some 47)) []).reverse
  rw [cleanEls_of l _ rfl (stack_ne _ _)]
  split
  · simp only [List.length_cons]; omega
  · split
    · simp
    · omega
theorem clean_ne (l : List UInt8) : Go.Lib.Pa.cleanEls l ≠ [] := by
  rw [cleanEls_of l _ rfl (stack_ne _ _)]
  have hne := stack_ne (l.head? == some 47) l
  revert hne
  generalize ((Go.Lib.Pa.els l).foldl (Go.Lib.Pa.cleanStep (l.head? == some 47)) []).reverse = W
  intro hne
  split
  · simp
  · split
    · simp
    · match W, hne with
      | [], _ => simp at *
      | [e], hne => rw [inter_one]; exact hne e (by simp)
      | e :: x :: L, _ => rw [inter_cons2]; simp
theorem join_two_eq (d n : ByteArray) (hd : d.data.toList ≠ []) : Go.Lib.Pa.join [d.data.toList, n.data.toList] = Go.Lib.Pa.cleanEls (two d n).data.toList := by
  unfold Go.Lib.Pa.join two
  rw [Go.Lib.Pa.clean_eq_cleanEls]
  by_cases hn : n.data.toList = []
  · rw [if_pos hn]
    simp [hn, hd, List.intercalate, List.filter]
  · rw [if_neg hn]
    simp [hn, hd, List.intercalate, List.filter]

set_option maxHeartbeats 1000000 in
theorem law_with (p n : ByteArray) (w : World) (a : Addr) (h3 : w.cell? ⟨3, 0, none⟩ = some (.iface 119 (.pointer (some a)))) (h3w : 3 < w.heap.size)
    (hp : p.size ≤ 200) (hn : n.size ≤ 200) (D J R : ByteArray) (q : Bool) (hD : Hid (strB (Go.Lib.Pa.cleanEls p.data.toList) = D)) (hJ : Hid (strB (Go.Lib.Pa.join [D.data.toList, n.data.toList]) = J)) (hJ2 : Hid (strB (Go.Lib.Pa.cleanEls (two D n).data.toList) = J)) (hR : Hid (strB (Go.Lib.Pa.cleanEls J.data.toList) = R)) (hq : Hid (Lib.hasPrefix R.data.toList D.data.toList = q))
    (hd0 : D.toList.isEmpty = false) (hd : D.size ≤ 1500) (hj : J.size ≤ 4000) :
    Calls Tryd.prog 4 #[.string p, .string n] w fun e w' => e = .returned (.bool true) ∧ Below w.heap.size w w' := by
  have e1 : (R.toList == R.toList) = true := beq_self_eq_true _
  have e2 : (n.toList == n.toList) = true := beq_self_eq_true _
  cases q with
  | true =>
    go_enter Tryd.func4, Tryd.ntmps4
    go_wp2_with (go_at_call 10; refine (impl_real p n _ a h3 h3w (by omega) (by omega) D J R _ hD hJ hR hq hd hj).mono ?_; rintro e w1 ⟨rfl, hb1⟩)
    go_wp2_with (go_at_call 11; refine (real_name p n _ (by omega) (by omega) D J R _ hD hJ2 hR hq hd0 hd hj).mono ?_; rintro e w2 ⟨rfl, hb2⟩)
    go_ret
    exact ⟨rfl, hb1.trans (hb2.mono hb1.size)⟩
  | false =>
    go_enter Tryd.func4, Tryd.ntmps4
    go_wp2_with (go_at_call 10; refine (impl_real p n _ a h3 h3w (by omega) (by omega) D J R _ hD hJ hR hq hd hj).mono ?_; rintro e w1 ⟨rfl, hb1⟩)
    go_wp2_with (go_at_call 11; refine (real_name p n _ (by omega) (by omega) D J R _ hD hJ2 hR hq hd0 hd hj).mono ?_; rintro e w2 ⟨rfl, hb2⟩)
    go_ret
    exact ⟨rfl, hb1.trans (hb2.mono hb1.size)⟩

theorem law_near (p n : ByteArray) (w : World) (a : Addr) (h3 : w.cell? ⟨3, 0, none⟩ = some (.iface 119 (.pointer (some a)))) (h3w : 3 < w.heap.size)
    (hp : p.size ≤ 200) (hn : n.size ≤ 200) :
    Calls Tryd.prog 4 #[.string p, .string n] w fun e w' => e = .returned (.bool true) ∧ Below w.heap.size w w' := by
  have hD0 : (strB (Go.Lib.Pa.cleanEls p.data.toList)).data.toList ≠ [] := by rw [strB_data]; exact clean_ne _
  have l1 : (strB (Go.Lib.Pa.cleanEls p.data.toList)).size ≤ 202 := by
    have := clean_len p.data.toList
    rw [← size_of] at this
    rw [size_of, strB_data]; omega
  refine law_with p n w a h3 h3w hp hn _ (strB (Go.Lib.Pa.cleanEls (two (strB (Go.Lib.Pa.cleanEls p.data.toList)) n).data.toList)) _ _ (Lib.hid rfl) (Lib.hid (by rw [join_two_eq _ _ hD0])) (Lib.hid rfl) (Lib.hid rfl) (Lib.hid rfl) ?_ (by omega) ?_
  · rw [toL]; simpa using hD0
  · generalize strB (Go.Lib.Pa.cleanEls p.data.toList) = D at *
    have h1 := clean_len (two D n).data.toList
    have e1 := size_of D
    have e2 := size_of n
    have l0 : (⟨#[]⟩ : ByteArray).data.toList.length = 0 := rfl
    have l2 : (⟨#[47]⟩ : ByteArray).data.toList.length = 1 := rfl
    have h2 : (two D n).data.toList.length ≤ 500 := by
      unfold two
      split <;> simp only [cat_data, List.length_append, l0, l2] <;> omega
    rw [size_of, strB_data]; omega

theorem law_far (s t : ByteArray) (w : World) (c1 : ¬ (s.size ≤ 200 ∧ t.size ≤ 200)) :
    Calls Tryd.prog 4 #[.string s, .string t] w fun e w' => e = .returned (.bool true) ∧ Below w.heap.size w w' := by
  by_cases d1 : 2147483647 < s.size
  · have e1 : decide (2147483647 < (s.size : Int)) = true := by simp; omega
    go_enter Tryd.func4, Tryd.ntmps4
    go_wp2
    go_ret
    exact ⟨rfl, Below.refl _ _⟩
  · have e1 : decide (2147483647 < (s.size : Int)) = false := by simp; omega
    by_cases d2 : 2147483647 < t.size
    · have e2 : decide (2147483647 < (t.size : Int)) = true := by simp; omega
      go_enter Tryd.func4, Tryd.ntmps4
      go_wp2
      go_ret
      exact ⟨rfl, Below.refl _ _⟩
    · have e2 : decide (2147483647 < (t.size : Int)) = false := by simp; omega
      by_cases d3 : 200 < s.size
      · have e3 : decide (200 < (s.size : Int)) = true := by simp; omega
        go_enter Tryd.func4, Tryd.ntmps4
        go_wp2
        go_ret
        exact ⟨rfl, Below.refl _ _⟩
      · have e3 : decide (200 < (s.size : Int)) = false := by simp; omega
        have e4 : decide (200 < (t.size : Int)) = true := by simp; omega
        go_enter Tryd.func4, Tryd.ntmps4
        go_wp2
        go_ret
        exact ⟨rfl, Below.refl _ _⟩

theorem star_err : "*" ++ "errors.errorString" = "*errors.errorString" := by decide
theorem sent_types : SentTypes Tryd.prog 61 119 121 9 where
  hi := ⟨_, Tryd.underlying61⟩
  row := fun u h => typeName_ptr_named (nm := "errors.errorString") (by rw [star_err]; kernel_rfl) (by kernel_rfl) (by decide) u (by rw [star_err]; exact h)
  hp := Tryd.underlying119
  he := ⟨_, Tryd.underlying121, rfl, rfl⟩
  hs := Tryd.underlying9
  hc := by kernel_rfl
  hcs := by kernel_rfl

theorem gone_at {w : World} (hL : laidMetH Tryd.prog Rows.fnRealPathRow.laid w) : ∃ a, w.cell? ⟨3, 0, none⟩ = some (.iface 119 (.pointer (some a))) ∧ 3 < w.heap.size := by
  obtain ⟨a, s, h1, h2, _⟩ := sent_of_laid sent_types (laid := Rows.fnRealPathRow.laid) hL "pub-marram/pub/afero/inner/os.ErrNotExist" [102, 105, 108, 101, 32, 100, 111, 101, 115, 32, 110, 111, 116, 32, 101, 120, 105, 115, 116] 3 (by kernel_rfl) (by kernel_rfl) (.tail _ (.head _))
  exact ⟨a, h1, h2⟩

theorem rp_walk (w : World) (p : ByteArray) (_ : p.size ≤ maxLen) (n : ByteArray) (_ : n.size ≤ maxLen) (hL : laidMetH Tryd.prog Rows.fnRealPathRow.laid w) :
    Calls Tryd.prog 4 #[.string p, .string n] w fun e w' => e = .returned (.bool true) ∧ Below w.heap.size w w' := by
  by_cases c : p.size ≤ 200 ∧ n.size ≤ 200
  · obtain ⟨a, h3, h3w⟩ := gone_at hL
    exact law_near p n w a h3 h3w c.1 c.2
  · exact law_far p n w c
end Go.Proofs.YtfanlhkpblemgaaDoor
