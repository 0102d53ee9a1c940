/- The walk of FnRealPathForms. -/
import Derived.Test.YtfanlhkpblemgaaDoorRpWalk
import Derived.Test.YtfanlhkpblemgaaDoorRfPlain
namespace Go.Proofs.YtfanlhkpblemgaaDoor
open Go.ChangeShapes Go.WideShapes Go.ChangeAt Go.RowKit Go.Rd Go.Pt

theorem within_yes (R D : ByteArray) (L G : List (List UInt8)) (w : World) (hL : Hid (∀ x ∈ L, Fine x)) (hR : Hid (R.data.toList = 47 :: inter (L ++ G))) (hD : Hid (D.data.toList = 47 :: inter L)) (hd : D.size ≤ 1500) :
    Calls Tryd.prog 15 #[.string R, .string D] w fun e w' => e = .returned (.bool true) ∧ w = w' := by
  by_cases c : R.toList = D.toList
  · have e1 : (R.toList == D.toList) = true := by rw [c]; exact beq_self_eq_true _
    clear c
    go_enter Tryd.func15, Tryd.ntmps15
    go_wp2
    go_ret
    exact ⟨rfl, rfl⟩
  · have e1 : (R.toList == D.toList) = false := beq_eq_false_iff_ne.2 c
    have hG : G ≠ [] := by
      rintro rfl
      apply c
      rw [toL, toL, hR.out, hD.out, List.append_nil]
    by_cases c2 : L = []
    · have e2 : (D.toList == [47]) = true := by rw [toL, hD.out, c2]; rfl
      have e3 : (R.data.toList.head? == some 47) = true := by rw [hR.out]; rfl
      have E3 := Lib.hid e3
      clear c c2 e3 hG
      go_enter Tryd.func15, Tryd.ntmps15
      go_wp2_with (go_at_call 12; refine (rooted_any _ _).mono ?_; rw [E3.out]; rintro e w' ⟨rfl, rfl⟩)
      go_ret
      exact ⟨rfl, rfl⟩
    · have e2 : (D.toList == [47]) = false := by
        rw [toL, hD.out]
        apply beq_eq_false_iff_ne.2
        intro h
        simp at h
        exact c2 (inter_nil hL.out h)
      have e3 : Lib.hasPrefix R.data.toList (D ++ ⟨#[47]⟩ : ByteArray).data.toList = true := by
        rw [cat_data, hR.out, hD.out]
        exact prefix_more L G c2 hG
      have E3 := Lib.hid e3
      clear c c2 e3 hG
      go_enter Tryd.func15, Tryd.ntmps15
      go_wp2_with (go_at_call 32; refine (begins_any _ _ _).mono ?_; rw [E3.out]; rintro e w' ⟨rfl, rfl⟩)
      go_ret
      exact ⟨rfl, rfl⟩

def Looks (E : List ByteArray) (w1 : World) (v : Value) (wr : World) : Prop :=
  ∃ j : Nat, v = .int .i64 j ∧ j ≤ E.length ∧ (∃ n, w1.drewN n = wr) ∧ Hid (∀ e ∈ (E.map (·.data.toList)).take j, e ≠ [46, 46])

/-- One call of RealPath: the path's clean form, what is joined, and the name below. -/
structure Below1 (p n D R : ByteArray) : Prop where
  hD : strB (Go.Lib.Pa.cleanEls p.data.toList) = D
  hJ : strB (Go.Lib.Pa.join [D.data.toList, n.data.toList]) = R
  hR : strB (Go.Lib.Pa.cleanEls R.data.toList) = R
  hq : Lib.hasPrefix R.data.toList D.data.toList = true
  hd : D.size ≤ 1500
  hj : R.size ≤ 4000
  hp : p.size ≤ 1000
  hn : n.size ≤ 1000

theorem real_yes (p n D R : ByteArray) (w : World) (a : Addr) (h3 : w.cell? ⟨3, 0, none⟩ = some (.iface 119 (.pointer (some a)))) (h3w : 3 < w.heap.size) (h : Below1 p n D R) :
    Calls Tryd.prog 10 #[.string p, .string n] w fun e w' => e = .returned (.tuple #[.string R, .int .i64 0]) ∧ Below w.heap.size w w' :=
  impl_real p n w a h3 h3w h.hp h.hn D R R true h.hD h.hJ h.hR h.hq h.hd h.hj

set_option maxHeartbeats 2000000 in
theorem forms_with (s t D N R : ByteArray) (w : World) (a : Addr) (h3 : w.cell? ⟨3, 0, none⟩ = some (.iface 119 (.pointer (some a)))) (h3w : 3 < w.heap.size) (hs : s.size ≤ 200) (ht : t.size ≤ 200)
    (hroot : Hid ((s.data.toList.head? == some 47) = true)) (L G : List (List UInt8)) (hL : Hid (∀ x ∈ L, Fine x)) (hRd : Hid (R.data.toList = 47 :: inter (L ++ G))) (hDd : Hid (D.data.toList = 47 :: inter L)) (hd : D.size ≤ 1500)
    (hcD : Hid (strB (Go.Lib.Pa.cleanEls s.data.toList) = D)) (hcN : Hid (strB (Go.Lib.Pa.cleanEls (⟨#[47]⟩ ++ t : ByteArray).data.toList) = N)) (hcN1 : (⟨#[47]⟩ ++ t : ByteArray).size ≤ 4000)
    (k : Level t.data.toList → Below1 s t D R ∧ Below1 D N D R ∧ Below1 (s ++ ⟨#[47, 46]⟩) (⟨#[46, 47]⟩ ++ t ++ ⟨#[47]⟩) D R) :
    Calls Tryd.prog 5 #[.string s, .string t] w fun e w' => e = .returned (.bool true) ∧ Below w.heap.size w w' := by
  have HK := Lib.hid k
  have hs4 : s.size ≤ 4000 := by omega
  have ht4 : t.size ≤ 4000 := by omega
  clear k
  go_enter Tryd.func5, Tryd.ntmps5
  go_wp2_with (first
    | (go_at_call 12; refine (rooted_any _ _).mono ?_; rw [hroot.out]; rintro e w' ⟨rfl, rfl⟩)
    | (go_at_call 13; refine (elements_any _ _ ht4).mono ?_; rintro e w1 ⟨g, cap, E, rfl, hE, hb1, HE⟩))
  have HLn := Lib.hid (show E.length ≤ 201 by
    have h1 := nels_len t.data.toList
    rw [← HE.out, List.length_map, ← size_of] at h1
    omega)
  have hLn : E.length ≤ 201 := HLn.out
  go_loopw [37] (fun v wr => Looks E w1 v wr) (fun v _ => E.length - (intOf v).toNat)
  case atStart => exact ⟨0, rfl, by omega, ⟨0, rfl⟩, Lib.hid (by simp)⟩
  case round =>
    obtain ⟨j, rfl, hj, ⟨nd, rfl⟩, H⟩ := hrel
    have hb2 := below_drewN hb1 nd
    by_cases c1 : j < E.length
    · have d1 : decide (j < E.length) = true := by simpa using c1
      have hcell : (w1.drewN nd).cell? ⟨g, j, none⟩ = some (.string (E[j])) := by
        have h1 := hE.cellAt j (by omega)
        simp [c1] at h1
        simpa using h1
      by_cases c2 : E[j].data.toList = [46, 46]
      · have t1 : (E[j].toList == [46, 46]) = true := by rw [toL, c2]; rfl
        clear c2
        generalize E[j] = x at *
        go_wp2
        go_ret
        exact ⟨rfl, hb2⟩
      · have t1 : (E[j].toList == [46, 46]) = false := by rw [toL]; exact beq_eq_false_iff_ne.2 c2
        have HN := Lib.hid (show ∀ e ∈ (E.map (·.data.toList)).take (j + 1), e ≠ [46, 46] by
          intro e he
          rw [List.take_add_one, List.getElem?_map, List.getElem?_eq_getElem c1] at he
          rcases List.mem_append.1 he with he | he
          · exact H.out e he
          · simp at he; subst he; exact c2)
        clear c2 H
        generalize E[j] = x at *
        go_wp2
        go_roundw
        case rel => exact ⟨j + 1, by go_num, by omega, ⟨nd, rfl⟩, HN⟩
        case measure => simp [intOf]; omega
    · have d1 : decide (j < E.length) = false := by simpa using c1
      obtain ⟨k1, k2, k3⟩ := HK.out (by
        have := H.out
        rw [List.take_of_length_le (by simp; omega), HE.out] at this
        exact this)
      have K1 := Lib.hid k1
      have K2 := Lib.hid k2
      have K3 := Lib.hid k3
      have e1 : (R.toList == R.toList) = true := beq_self_eq_true _
      have h3a := (hb2.cell (p := ⟨3, 0, none⟩) h3w).trans h3
      have h3aw := Nat.lt_of_lt_of_le h3w hb2.size
      clear k1 k2 k3 H HK
      generalize hw2 : w1.drewN nd = w2 at *
      clear hw2
      go_wp2_with (go_at_call 10; with_reducible refine (real_yes s t D R _ a h3a h3aw K1.out).mono ?_; rintro e w3 ⟨rfl, hb3⟩)
      go_wp2_with (go_at_call 14; with_reducible refine (clean_any s _ hs4 D hcD).mono ?_; rintro e w4 ⟨rfl, hb4⟩)
      go_wp2_with (go_at_call 14; with_reducible refine (clean_any _ _ hcN1 N hcN).mono ?_; rintro e w5 ⟨rfl, hb5⟩)
      have hA := hb3.trans ((hb4.mono hb3.size).trans (hb5.mono (Nat.le_trans hb3.size hb4.size)))
      have h3b := (hA.cell (p := ⟨3, 0, none⟩) h3aw).trans h3a
      have h3bw := Nat.lt_of_lt_of_le h3aw hA.size
      go_wp2_with (go_at_call 10; with_reducible refine (real_yes D N D R _ a h3b h3bw K2.out).mono ?_; rintro e w6 ⟨rfl, hb6⟩)
      have hB := hA.trans (hb6.mono hA.size)
      have h3c := (hB.cell (p := ⟨3, 0, none⟩) h3aw).trans h3a
      have h3cw := Nat.lt_of_lt_of_le h3aw hB.size
      go_wp2_with (go_at_call 10; with_reducible refine (real_yes _ _ D R _ a h3c h3cw K3.out).mono ?_; rintro e w7 ⟨rfl, hb7⟩)
      have hC := hB.trans (hb7.mono hB.size)
      go_wp2_with (go_at_call 14; with_reducible refine (clean_any s _ hs4 D hcD).mono ?_; rintro e w8 ⟨rfl, hb8⟩)
      have hE := hb2.trans ((hC.trans (hb8.mono hC.size)).mono hb2.size)
      go_wp2_with (go_at_call 15; with_reducible refine (within_yes R D L G _ hL hRd hDd hd).mono ?_; rintro e w9 ⟨rfl, rfl⟩)
      go_ret
      exact ⟨rfl, hE⟩
end Go.Proofs.YtfanlhkpblemgaaDoor
