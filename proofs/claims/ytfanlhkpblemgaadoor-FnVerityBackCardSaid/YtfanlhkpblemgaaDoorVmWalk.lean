/- FnVerityBack: bytes without the zeros at both ends. -/
import Derived.Test.YtfanlhkpblemgaaDoorVkWalk
import Derived.Test.YtfanlhkpblemgaaDoorVeWalk
namespace Go.Proofs.YtfanlhkpblemgaaDoor
open Go.RowKit Go.Rd
set_option linter.unusedVariables false
set_option linter.unusedSimpArgs false
open Go.Proofs.YtfanlhkpblemgaaDoorW.PrintWords Go.Proofs.YtfanlhkpblemgaaDoorW.PrintLast Go.Proofs.YtfanlhkpblemgaaDoorW.PrintMore

/-- What is left has so many zeros behind it. -/
def TrimRel (core : List Int) (g o c : Nat) (k : Nat) (w : World) (u : Value) : Prop := ∃ j, j ≤ k ∧ u = .slice (some ⟨g, o, none⟩) (core.length + j) c ∧ BytesIn w (some ⟨g, o, none⟩) (core.length + j) c (core ++ List.replicate j 0)
def TrimPost (core : List Int) (w : World) (e : Ending) (w' : World) : Prop := e = .returned (.string (strOfNums core)) ∧ w' = w
theorem str_bytes {w : World} {A : Option Addr} {n c : Nat} {l : List Int} (h : BytesIn w A n c l) : (convert 22 9 (.slice A n c)).run Tryd.prog w = .ok (.string (strOfNums l)) w :=
  Kd.C_string Tryd.underlying22 Tryd.underlying5 Tryd.underlying9 (C_bytes h)
set_option maxRecDepth 100000 in
set_option maxHeartbeats 2000000 in
theorem trim_any (g o c n : Nat) (core : List Int) (k : Nat) (w : World) (hB : BytesIn w (some ⟨g, o, none⟩) n c (core ++ List.replicate k 0)) (x0 x1 : Int) (cl : Nat) (hcl : core.length = cl + 1) (h0 : core[0]? = some x0) (h1 : core[cl]? = some x1) (hx0 : x0 ≠ 0) (hx1 : x1 ≠ 0) (hn : n ≤ 10000) :
    Calls Tryd.prog 51 #[.slice (some ⟨g, o, none⟩) n c] w (TrimPost core w) := by
  have hnk : n = core.length + k := by have := hB.len; simp at this; omega
  subst hnk
  have z0 := hB.cells _ rfl 0 (.int .u8 x0) (by rw [List.getElem?_map, List.getElem?_append_left (by omega), h0]; rfl)
  have z1 := hB.cells _ rfl cl (.int .u8 x1) (by rw [List.getElem?_map, List.getElem?_append_left (by omega), h1]; rfl)
  rw [addr_add, Nat.add_zero] at z0
  rw [addr_add] at z1
  have b0 : (x0 == 0) = false := beq_eq_false_iff_ne.2 hx0
  have b1 : (x1 == 0) = false := beq_eq_false_iff_ne.2 hx1
  have HB := Lib.hid hB
  have HCL := Lib.hid hcl
  have hpos : decide (0 < core.length + k) = true := decide_eq_true (by omega)
  have hpi : decide ((0 : Int) < ((core.length + k : Nat) : Int)) = true := decide_eq_true (by omega)
  obtain ⟨n, hnn⟩ : ∃ n, core.length + k = n := ⟨_, rfl⟩
  have hn1 : 0 < n := by omega
  have hcb : cl ≤ 10000 := by omega
  rw [hnn] at hpos hpi hn ⊢
  have HN := Lib.hid hnn
  clear hB hcl h0 h1 hx0 hx1 hnn
  go_enter Tryd.func51, Tryd.ntmps51
  go_wp2_with fail
  go_loop [0] (fun u => u = .slice (some ⟨g, o, none⟩) n c) (fun _ => 0)
  case atStart => rfl
  case round =>
    subst hrel
    go_wp2_with fail
    go_loop [0] (fun u => TrimRel core g o c k w u) (fun u => lenOf u)
    case atStart => exact ⟨k, Nat.le_refl _, by rw [HN.out], by have h := HB.out; rw [HN.out] at h ⊢; exact h⟩
    case round =>
      obtain ⟨j, hj, rfl, hb⟩ := hrel
      cases j with
      | zero =>
        rw [Nat.add_zero, List.replicate_zero, List.append_nil] at hb
        rw [Nat.add_zero]
        have hs := str_bytes (c := c) hb
        obtain ⟨m, hm⟩ : ∃ m, core.length = m := ⟨_, rfl⟩
        rw [hm] at hs hb ⊢
        have hm2 : m = cl + 1 := by rw [← hm]; exact HCL.out
        subst hm2
        have HM := Lib.hid hm
        clear hb hm
        have e1 : ((cl + 1 : Nat) : Int) - 1 = (cl : Int) := by omega
        go_wp2_with fail
        go_ret
        exact ⟨rfl, rfl⟩
      | succ j =>
        have hcell := hb.cells _ rfl (core.length + j) (.int .u8 0) (by rw [List.getElem?_map, List.getElem?_append_right (by omega), List.getElem?_replicate]; simp)
        rw [addr_add] at hcell
        obtain ⟨hs, ht⟩ := BytesIn.taken hb (core.length + j) (by have := HCL.out; omega) (by omega)
        rw [List.take_append, List.take_of_length_le (by omega), List.take_replicate, show min (core.length + j - core.length) (j + 1) = j by omega] at ht
        have HT := Lib.hid ht
        obtain ⟨m, hm⟩ : ∃ m, core.length + j = m := ⟨_, rfl⟩
        have hmn : m ≤ 10000 := by rw [← hm]; have := HN.out; omega
        rw [show core.length + (j + 1) = m + 1 by omega] at hs hb ⊢
        rw [hm] at hs hcell HT
        have HM := Lib.hid hm
        clear hb ht hm
        go_wp2_with fail
        exact ⟨⟨j, by omega, by rw [HM.out], by rw [HM.out]; exact HT.out⟩, Nat.lt_succ_self m⟩
end Go.Proofs.YtfanlhkpblemgaaDoor
