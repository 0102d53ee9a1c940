/- The walks of FnNormalizeSteps. -/
import Derived.Test.YtfanlhkpblemgaaRows
import Derived.Test.YtfanlhkpblemgaaShelf
import Derived.Test.YtfanlhkpblemgaaRd
import Derived.Test.YtfanlhkpblemgaaNsPlain
import Derived.Laws.Concat
import Derived.WalkSmall
import Derived.WalkKit
import Derived.ProofKit
import Derived.OpenShut
import Derived.Lib.Hide
import Derived.LoopTactic
import Derived.BigQuiet
import Derived.Deep.QuietTactic
import Derived.WalkSpells
import Derived.KernelRfl
namespace Go.Proofs.Ytfanlhkpblemgaa
open Go.ChangeShapes Go.WideShapes Go.ChangeAt Go.RowKit Go.Rd Go.Pt

def strB (l : List UInt8) : ByteArray := ⟨l.toArray⟩
theorem nil_toList : (ByteArray.mk #[]).toList = [] := by rw [ByteArray.toList_eq]
theorem toL (l : List UInt8) : (strB l).toList = l := by rw [ByteArray.toList_eq]; simp [strB]
theorem mkL (l : Array UInt8) : (ByteArray.mk l).toList = l.toList := by rw [ByteArray.toList_eq]

theorem not_dot (x l : List UInt8) (hx : x.head? ≠ some 47) (hl : l.head? = some 47) (R : ByteArray) (hR : R = strB l) : (R.toList == x) = false := by
  subst hR
  rw [toL]
  apply beq_eq_false_iff_ne.2
  rintro rfl
  exact hx hl

theorem norm_any (s : ByteArray) (R : ByteArray) (l : List UInt8) (w : World) (hs : s.size ≤ 281474976710656) (hl : Hid (s.data.toList = 47 :: l)) (hR : Hid (strB (nrm l) = R)) :
    Calls Try.prog 22 #[.string s] w fun e w' => e = .returned (.string R) ∧ Below w.heap.size w w' := by
  have c1 := not_dot [46] (nrm l) (by decide) rfl R hR.out.symm
  have c2 := not_dot [46, 46] (nrm l) (by decide) rfl R hR.out.symm
  have e : (ByteArray.mk (Go.Lib.Pa.cleanEls s.data.toList).toArray) = R := by rw [hl.out, nrm_eq]; exact hR.out
  have H := Lib.hid e
  clear e
  go_enter Try.func22, Try.ntmps22
  go_wp2_with (go_at_call 29; refine (Try.path_Clean_rules _ _ hs).mono ?_; rw [H.out]; rintro e w' ⟨rfl, hb⟩)
  go_ret
  exact ⟨rfl, hb⟩
theorem door_norm (s : ByteArray) (R : ByteArray) (l : List UInt8) (w : World) (hs : s.size ≤ 281474976710656) (hl : Hid (s.data.toList = 47 :: l)) (hR : Hid (strB (nrm l) = R)) :
    Calls Try.prog 18 #[.string s] w fun e w' => e = .returned (.string R) ∧ Below w.heap.size w w' := by
  go_enter Try.func18, Try.ntmps18
  go_wp2_with (go_at_call 22; refine (norm_any _ R l _ hs hl hR).mono ?_; rintro e w' ⟨rfl, hb⟩)
  go_ret
  exact ⟨rfl, hb⟩
theorem impl_norm (s : ByteArray) (R : ByteArray) (l : List UInt8) (w : World) (hs : s.size ≤ 281474976710656) (hl : Hid (s.data.toList = 47 :: l)) (hR : Hid (strB (nrm l) = R)) :
    Calls Try.prog 9 #[.string s] w fun e w' => e = .returned (.string R) ∧ Below w.heap.size w w' := by
  go_enter Try.func9, Try.ntmps9
  go_wp2_with (go_at_call 18; refine (door_norm _ R l _ hs hl hR).mono ?_; rintro e w' ⟨rfl, hb⟩)
  go_ret
  exact ⟨rfl, hb⟩


theorem fine_tests {R : ByteArray} {f k : Nat} (h : Fine ((R.data.toList.drop f).take (k - f))) :
    (R.extract f k).toList.isEmpty = false ∧ ((R.extract f k).toList == [46]) = false ∧ ((R.extract f k).toList == [46, 46]) = false := by
  have e : (R.extract f k).toList = (R.data.toList.drop f).take (k - f) := by rw [ByteArray.toList_eq, Lib.extract_data]
  rw [e]
  exact ⟨by simpa using h.1, beq_eq_false_iff_ne.2 h.2.1, beq_eq_false_iff_ne.2 h.2.2.1⟩
theorem byte_at (s : ByteArray) (k : Nat) (h : k < s.size) : s.data.toList[k]'(by simpa using h) = s[k] := by simp; rfl
/-- What the round keeps. -/
def Rounds (R : ByteArray) (w : World) (v7 v8 _v9 : Value) (wr : World) : Prop :=
  ∃ f k : Nat, v7 = .int .i64 f ∧ v8 = .int .i64 k ∧ k ≤ R.size + 1 ∧ f ≤ R.size + 1 ∧ Below w.heap.size w wr ∧ Hid ((R.toList == [47]) = false → Ahead R.data.toList f k)

set_option maxHeartbeats 1000000 in
theorem law_any (s t F R : ByteArray) (w : World) (hs : s.size ≤ 200) (ht : t.size ≤ 200) (hF : Hid (strB (nrm s.data.toList) = F)) (hR : Hid (strB (nrm (s.data.toList ++ 47 :: t.data.toList)) = R)) (hf : F.size ≤ 202)
    (g1 : Hid (((ByteArray.mk #[47]) ++ s).data.toList = 47 :: s.data.toList))
    (g2 : Hid (((ByteArray.mk #[47]) ++ s ++ (ByteArray.mk #[47]) ++ t).data.toList = 47 :: (s.data.toList ++ 47 :: t.data.toList)))
    (l : List UInt8) (g3 : Hid ((F ++ (ByteArray.mk #[47]) ++ t).data.toList = 47 :: l)) (g4 : Hid (strB (nrm l) = R))
    (r0 : 0 < R.size) (e0 : R.toList.isEmpty = false) (e2 : ((R[0].toNat : Int) == 47) = true) (hl : R.size ≤ 1000) (k1 : ((ByteArray.mk #[47]) ++ s).size ≤ 281474976710656) (k2 : ((ByteArray.mk #[47]) ++ s ++ (ByteArray.mk #[47]) ++ t).size ≤ 281474976710656) (k3 : (F ++ (ByteArray.mk #[47]) ++ t).size ≤ 281474976710656)
    (hst : Hid ((R.toList == [47]) = false → Ahead R.data.toList 1 1)) :
    Calls Try.prog 4 #[.string s, .string t] w fun e w' => e = .returned (.bool true) ∧ Below w.heap.size w w' := by
  have e1 : (R.toList == R.toList) = true := beq_self_eq_true _
  go_enter Try.func4, Try.ntmps4
  go_wp2_with (go_at_call 9; first
    | (refine (impl_norm ((ByteArray.mk #[47]) ++ s) F s.data.toList _ k1 g1 hF).mono ?_; rintro e w1 ⟨rfl, hb1⟩)
    | (refine (impl_norm ((ByteArray.mk #[47]) ++ s ++ (ByteArray.mk #[47]) ++ t) R _ _ k2 g2 hR).mono ?_; rintro e w2 ⟨rfl, hb2⟩)
    | (refine (impl_norm (F ++ (ByteArray.mk #[47]) ++ t) R l _ k3 g3 g4).mono ?_; rintro e w3 ⟨rfl, hb3⟩))
  go_loopw [7, 8, 9] (fun v7 v8 v9 wr => Rounds R w v7 v8 v9 wr) (fun _ v8 _ _ => 1002 - (intOf v8).toNat)
  case atStart => exact ⟨1, 1, rfl, rfl, by omega, by omega, hb1.trans ((hb2.mono hb1.size).trans (hb3.mono (Nat.le_trans hb1.size hb2.size))), hst⟩
  case round =>
    obtain ⟨f, k, rfl, rfl, hk, hf', hb, H⟩ := hrel
    by_cases c0 : (R.toList == [47]) = false
    · by_cases c1 : k < R.size
      · have c2 : ((k : Int) ≤ (R.size : Int)) := by omega
        by_cases c3 : (R[k].toNat : Int) = 47
        · have c3b : ((R[k].toNat : Int) == 47) = true := by simpa using c3
          have hk' : k < R.data.toList.length := by simpa using c1
          have e47 : R.data.toList[k] = 47 := by rw [byte_at R k c1]; apply UInt8.toNat_inj.1; show R[k].toNat = 47; omega
          clear c3
          obtain ⟨hfine, hfk, hnext⟩ := ahead_slash (H.out c0) hk' e47
          obtain ⟨t1, t2, t3⟩ := fine_tests hfine
          have Hn := Lib.hid hnext
          clear hnext e47 hk' hfine
          go_wp2
          go_roundw
          case rel => exact ⟨k + 1, k + 1, by go_num, by go_num, by omega, by omega, hb, Lib.hid (fun _ => Hn.out)⟩
          case measure => simp [intOf]; omega
        · have c3b : ((R[k].toNat : Int) == 47) = false := by simpa using c3
          have hk' : k < R.data.toList.length := by simpa using c1
          have e47 : R.data.toList[k] ≠ 47 := by
            intro h
            apply c3
            rw [← byte_at R k c1, h]; rfl
          clear c3
          have Hn := Lib.hid (ahead_plain (H.out c0) hk' e47)
          clear e47 hk'
          go_wp2
          go_roundw
          case rel => exact ⟨f, k + 1, rfl, by go_num, by omega, by omega, hb, Lib.hid (fun _ => Hn.out)⟩
          case measure => simp [intOf]; omega
      · by_cases c2 : k = R.size
        · subst c2
          obtain ⟨hfine, hfk, hnext⟩ := ahead_end (H.out c0) (by simp)
          obtain ⟨t1, t2, t3⟩ := fine_tests hfine
          have Hn := Lib.hid (hnext (R.size + 1))
          clear hnext hfine
          go_wp2
          go_roundw
          case rel => exact ⟨R.size + 1, R.size + 1, by go_num, by go_num, by omega, by omega, hb, Lib.hid (fun _ => Hn.out)⟩
          case measure => simp [intOf]; omega
        · have c5 : k = R.size + 1 := by omega
          subst c5
          have c6 : decide (((R.size + 1 : Nat) : Int) ≤ (R.size : Int)) = false := by simp; omega
          go_wp2
          go_ret
          exact ⟨rfl, hb⟩
    · have c0' : (R.toList == [47]) = true := by simpa using c0
      clear c0
      by_cases c1 : (k : Int) ≤ (R.size : Int)
      · go_wp2
        go_ret
        exact ⟨rfl, hb⟩
      · have c6 : decide ((k : Int) ≤ (R.size : Int)) = false := by simpa using c1
        go_wp2
        go_ret
        exact ⟨rfl, hb⟩

theorem cat_data (a b : ByteArray) : (a ++ b).data.toList = a.data.toList ++ b.data.toList := by simp [ByteArray.data_append]
theorem size_of (a : ByteArray) : a.size = a.data.toList.length := by simp

theorem law_near (s t : ByteArray) (w : World) (hs : s.size ≤ 200) (ht : t.size ≤ 200) :
    Calls Try.prog 4 #[.string s, .string t] w fun e w' => e = .returned (.bool true) ∧ Below w.heap.size w w' := by
  have ls : s.data.toList.length ≤ 200 := by rw [← size_of]; exact hs
  have lt : t.data.toList.length ≤ 200 := by rw [← size_of]; exact ht
  have n1 := nrm_len s.data.toList
  have n2 := nrm_len (s.data.toList ++ 47 :: t.data.toList)
  refine law_any s t (strB (nrm s.data.toList)) (strB (nrm (s.data.toList ++ 47 :: t.data.toList))) w hs ht (Lib.hid rfl) (Lib.hid rfl) ?_ ?_ ?_ (inter (stack s.data.toList).reverse ++ 47 :: t.data.toList) ?_ ?_ ?_ ?_ ?_ ?_ ?_ ?_ ?_ ?_
  · rw [size_of]; simp only [strB, List.toList_toArray]; omega
  · exact Lib.hid (by rw [cat_data]; rfl)
  · exact Lib.hid (by simp only [cat_data]; simp)
  · exact Lib.hid (by simp only [cat_data, strB]; simp [nrm])
  · refine Lib.hid ?_
    rw [← nrm_eq, ← nrm_steps]
    rfl
  · rw [size_of]; simp [strB, nrm]
  · rw [toL]; rfl
  · rfl
  · rw [size_of]; simp only [strB, List.toList_toArray]; simp only [List.length_append, List.length_cons] at n2; omega
  · rw [size_of]; simp only [cat_data, List.length_append, List.length_cons, List.length_nil]; omega
  · rw [size_of]; simp only [cat_data, List.length_append, List.length_cons, List.length_nil]; omega
  · rw [size_of]; simp only [cat_data, strB, List.length_append, List.length_cons, List.length_nil]; omega
  · refine Lib.hid fun h => ?_
    rw [toL] at h
    exact ahead_start rfl (by intro e; rw [show (strB (nrm (s.data.toList ++ 47 :: t.data.toList))).data.toList = nrm (s.data.toList ++ 47 :: t.data.toList) by simp [strB]] at e; rw [e] at h; simp at h)

theorem law_walk (w : World) (s : ByteArray) (_ : s.size ≤ maxLen) (t : ByteArray) (_ : t.size ≤ maxLen) :
    Calls Try.prog 4 #[.string s, .string t] w fun e w' => e = .returned (.bool true) ∧ Below w.heap.size w w' := by
  by_cases c1 : s.size ≤ 200 ∧ t.size ≤ 200
  · exact law_near s t w c1.1 c1.2
  · by_cases d1 : 2147483647 < s.size
    · have e1 : decide (2147483647 < (s.size : Int)) = true := by simp; omega
      go_enter Try.func4, Try.ntmps4
      go_wp2
      go_ret
      exact ⟨rfl, Below.refl _ _⟩
    · have e1 : decide (2147483647 < (s.size : Int)) = false := by simp; omega
      by_cases d2 : 2147483647 < t.size
      · have e2 : decide (2147483647 < (t.size : Int)) = true := by simp; omega
        go_enter Try.func4, Try.ntmps4
        go_wp2
        go_ret
        exact ⟨rfl, Below.refl _ _⟩
      · have e2 : decide (2147483647 < (t.size : Int)) = false := by simp; omega
        by_cases d3 : 200 < s.size
        · have e3 : decide (200 < (s.size : Int)) = true := by simp; omega
          go_enter Try.func4, Try.ntmps4
          go_wp2
          go_ret
          exact ⟨rfl, Below.refl _ _⟩
        · have e3 : decide (200 < (s.size : Int)) = false := by simp; omega
          have e4 : decide (200 < (t.size : Int)) = true := by simp; omega
          go_enter Try.func4, Try.ntmps4
          go_wp2
          go_ret
          exact ⟨rfl, Below.refl _ _⟩
end Go.Proofs.Ytfanlhkpblemgaa
