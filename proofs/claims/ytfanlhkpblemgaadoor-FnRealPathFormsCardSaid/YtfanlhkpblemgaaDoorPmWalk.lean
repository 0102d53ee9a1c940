/- The walks of the specification's paths: Join of two, Begins, RealName. -/
import Derived.Test.YtfanlhkpblemgaaDoorPkWalk
namespace Go.Proofs.YtfanlhkpblemgaaDoor
open Go.ChangeShapes Go.WideShapes Go.ChangeAt Go.RowKit Go.Rd Go.Pt

/-- What two parts are joined to, ahead of the cleaning; the first one is not empty. -/
def two (d n : ByteArray) : ByteArray := if n.data.toList = [] then ⟨#[]⟩ ++ d ++ n else ⟨#[]⟩ ++ d ++ ⟨#[47]⟩ ++ n

def Twos (w : World) (d n : ByteArray) (v3 v8 : Value) (wr : World) : Prop :=
  w = wr ∧ ((v3 = .string ⟨#[]⟩ ∧ v8 = .int .i64 0) ∨ (v3 = .string (⟨#[]⟩ ++ d) ∧ v8 = .int .i64 1) ∨ (v3 = .string (two d n) ∧ v8 = .int .i64 2))

set_option maxHeartbeats 2000000 in
theorem join_two (d n : ByteArray) (w : World) (g c : Nat) (R : ByteArray) (h0 : w.cell? ⟨g, 0, none⟩ = some (.string d)) (h1 : w.cell? ⟨g, 1, none⟩ = some (.string n))
    (hd0 : d.toList.isEmpty = false) (hd : d.size ≤ 1500) (hn : n.size ≤ 1500) (hR : Hid (strB (Go.Lib.Pa.cleanEls (two d n).data.toList) = R)) :
    Calls Tryd.prog 31 #[.slice (some ⟨g, 0, none⟩) 2 c] w fun e w' => e = .returned (.string R) ∧ Below w.heap.size w w' := by
  have k0 : (⟨#[]⟩ : ByteArray).toList.isEmpty = true := by rw [toL]; rfl
  have k1 : (⟨#[]⟩ ++ d : ByteArray).toList.isEmpty = false := by rw [toL, cat_data]; rw [toL] at hd0; simpa using hd0
  have k2 : (two d n).toList.isEmpty = false := by
    rw [toL] at hd0 ⊢
    unfold two
    split <;> simp only [cat_data] <;> cases h : d.data.toList <;> simp_all
  have k3 : (two d n).size ≤ 4000 := by
    have e1 := size_of d
    have e2 := size_of n
    have l0 : (⟨#[]⟩ : ByteArray).data.toList.length = 0 := rfl
    have l1 : (⟨#[47]⟩ : ByteArray).data.toList.length = 1 := rfl
    rw [size_of]
    unfold two
    split <;> simp only [cat_data, List.length_append, l0, l1] <;> omega
  go_enter Tryd.func31, Tryd.ntmps31
  go_wp2
  go_loopw [3, 8] (fun v3 v8 wr => Twos w d n v3 v8 wr) (fun _ v8 _ => 2 - (intOf v8).toNat)
  case atStart => exact ⟨rfl, .inl ⟨rfl, rfl⟩⟩
  case round =>
    obtain ⟨rfl, ⟨rfl, rfl⟩ | ⟨rfl, rfl⟩ | ⟨rfl, rfl⟩⟩ := hrel
    · go_wp2
      go_roundw
      case rel => exact ⟨rfl, .inr (.inl ⟨rfl, rfl⟩)⟩
      case measure => simp [intOf]
    · by_cases hn0 : n.data.toList = []
      · have k4 : n.toList.isEmpty = true := by rw [toL, hn0]; rfl
        have k5 : two d n = ⟨#[]⟩ ++ d ++ n := by unfold two; rw [if_pos hn0]
        have K5 := Lib.hid k5
        clear k5 hn0
        go_wp2
        go_roundw
        case rel => exact ⟨rfl, .inr (.inr ⟨by rw [K5.out], rfl⟩)⟩
        case measure => simp [intOf]
      · have k4 : n.toList.isEmpty = false := by rw [toL]; simpa using hn0
        have k5 : two d n = ⟨#[]⟩ ++ d ++ ⟨#[47]⟩ ++ n := by unfold two; rw [if_neg hn0]
        have K5 := Lib.hid k5
        clear k5 hn0
        go_wp2
        go_roundw
        case rel => exact ⟨rfl, .inr (.inr ⟨by rw [K5.out], rfl⟩)⟩
        case measure => simp [intOf]
    · generalize two d n = q at *
      go_wp2_with (go_at_call 14; refine (clean_any _ _ k3 R hR).mono ?_; rintro e w' ⟨rfl, hb⟩)
      go_ret
      exact ⟨rfl, hb⟩

theorem begins_any (a b : ByteArray) (w : World) : Calls Tryd.prog 32 #[.string a, .string b] w fun e w' => e = .returned (.bool (Lib.hasPrefix a.data.toList b.data.toList)) ∧ w = w' := by
  by_cases c : b.size ≤ a.size
  · have e : Lib.hasPrefix a.data.toList b.data.toList = ((a.extract 0 b.size).toList == b.toList) := by
      rw [toL, toL, Lib.extract_data, ← Lib.hasPrefix_of_take]
      simp [c]
    have H := Lib.hid e
    clear e
    go_enter Tryd.func32, Tryd.ntmps32
    go_wp2
    go_ret
    exact ⟨by rw [H.out]; rfl, rfl⟩
  · have e : Lib.hasPrefix a.data.toList b.data.toList = false := by
      rw [← Lib.hasPrefix_of_take]
      simp [c]
    have H := Lib.hid e
    clear e
    go_enter Tryd.func32, Tryd.ntmps32
    go_wp2
    go_ret
    exact ⟨by rw [H.out]; rfl, rfl⟩

/-- The name below a path, and whether it begins with the clean path. -/
def realN (p n : ByteArray) : ByteArray := strB (Go.Lib.Pa.cleanEls (Go.Lib.Pa.cleanEls (two (strB (Go.Lib.Pa.cleanEls p.data.toList)) n).data.toList))
def realB (p n : ByteArray) : Bool := Lib.hasPrefix (realN p n).data.toList (Go.Lib.Pa.cleanEls p.data.toList)

set_option maxHeartbeats 1000000 in
theorem real_name (p n : ByteArray) (w : World) (hp : p.size ≤ 1000) (hn : n.size ≤ 1000) (D J R : ByteArray) (b : Bool) (hD : Hid (strB (Go.Lib.Pa.cleanEls p.data.toList) = D)) (hJ : Hid (strB (Go.Lib.Pa.cleanEls (two D n).data.toList) = J)) (hR : Hid (strB (Go.Lib.Pa.cleanEls J.data.toList) = R)) (hb : Hid (Lib.hasPrefix R.data.toList D.data.toList = b))
    (hd0 : D.toList.isEmpty = false) (hd : D.size ≤ 1500) (hj : J.size ≤ 4000) :
    Calls Tryd.prog 11 #[.string p, .string n] w fun e w' => e = .returned (.tuple #[.string R, .bool b]) ∧ Below w.heap.size w w' := by
  go_enter Tryd.func11, Tryd.ntmps11
  go_wp2_with (go_at_call 14; refine (clean_any _ _ (by omega) D hD).mono ?_; rintro e w1 ⟨rfl, hb1⟩)
  go_wp2_with (go_at_call 31; refine (join_two D n _ w1.heap.size 2 J ((cell_of (alloc_new _ _) 0).trans rfl) ((cell_of (alloc_new _ _) 1).trans rfl) hd0 hd (by omega) hJ).mono ?_; rintro e w2 ⟨rfl, hb2⟩)
  go_wp2_with (go_at_call 14; refine (clean_any _ _ hj R hR).mono ?_; rintro e w3 ⟨rfl, hb3⟩)
  go_wp2_with (go_at_call 32; refine (begins_any _ _ _).mono ?_; rw [hb.out]; rintro e w4 ⟨rfl, rfl⟩)
  go_ret2
  have hA := (hb1.alloc hb1.size (Obj.cells #[Value.string D, Value.string n] 9))
  exact ⟨rfl, hA.trans ((hb2.mono hA.size).trans (hb3.mono (Nat.le_trans hA.size hb2.size)))⟩
end Go.Proofs.YtfanlhkpblemgaaDoor
