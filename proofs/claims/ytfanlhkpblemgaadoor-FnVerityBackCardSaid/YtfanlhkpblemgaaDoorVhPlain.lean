/- FnVerityBack: the two ways to write bytes in hexadecimal digits answer alike. -/
import Derived.Test.YtfanlhkpblemgaaDoorPFnVerityBackx
import Derived.Test.YtfanlhkpblemgaaDoorVbPlain
namespace Go.Proofs.YtfanlhkpblemgaaDoor
open Go.RowKit
set_option linter.unusedVariables false
set_option linter.unusedSimpArgs false
open Go.Proofs.YtfanlhkpblemgaaDoorW.PrintWords Go.Proofs.YtfanlhkpblemgaaDoorW.PrintLast Go.Proofs.YtfanlhkpblemgaaDoorW.PrintMore

def hexD : ByteArray := ⟨#[48, 49, 50, 51, 52, 53, 54, 55, 56, 57, 97, 98, 99, 100, 101, 102]⟩
def hexA (c : Int) : ByteArray := hexD.extract (c / 16).toNat ((c / 16 + 1) % 256).toNat
def hexB (c : Int) : ByteArray := hexD.extract (Go.bits .and .u8 c 15).toNat ((Go.bits .and .u8 c 15 + 1) % 256).toNat
def hexN (c : Int) : List Int := [bt hexD (c / 16), bt hexD (Go.bits .and .u8 c 15)]
structure HexOk (c : Int) : Prop where
  a0 : 0 ≤ c / 16
  a1 : c / 16 ≤ (c / 16 + 1) % 256
  a2 : (c / 16 + 1) % 256 ≤ 16
  a3 : c / 16 < 16
  b0 : 0 ≤ Go.bits .and .u8 c 15
  b1 : Go.bits .and .u8 c 15 ≤ (Go.bits .and .u8 c 15 + 1) % 256
  b2 : (Go.bits .and .u8 c 15 + 1) % 256 ≤ 16
  b3 : Go.bits .and .u8 c 15 < 16
  sa : (hexA c).size = 1
  sb : (hexB c).size = 1
  eq : (hexA c ++ hexB c).data.toList = (strOfNums (hexN c)).data.toList
def hexOk (c : Int) : Bool := decide (0 ≤ c / 16) && decide (c / 16 ≤ (c / 16 + 1) % 256) && decide ((c / 16 + 1) % 256 ≤ 16) && decide (c / 16 < 16) && decide (0 ≤ Go.bits .and .u8 c 15) && decide (Go.bits .and .u8 c 15 ≤ (Go.bits .and .u8 c 15 + 1) % 256) && decide ((Go.bits .and .u8 c 15 + 1) % 256 ≤ 16) && decide (Go.bits .and .u8 c 15 < 16) &&
  decide ((hexA c).size = 1) && decide ((hexB c).size = 1) && decide ((hexA c ++ hexB c).data.toList = (strOfNums (hexN c)).data.toList)
theorem hex_all : (List.range 256).all (fun n => hexOk (n : Int)) = true := by kernel_rfl
theorem hex_one (c : Int) (h0 : 0 ≤ c) (h1 : c ≤ 255) : HexOk c := by
  have h := List.all_eq_true.1 hex_all c.toNat (List.mem_range.2 (by omega))
  rw [show ((c.toNat : Nat) : Int) = c by omega] at h
  simp only [hexOk, Bool.and_eq_true, decide_eq_true_eq] at h
  obtain ⟨⟨⟨⟨⟨⟨⟨⟨⟨⟨a, b⟩, c⟩, d⟩, e⟩, f⟩, g⟩, h⟩, i⟩, j⟩, k⟩ := h
  exact ⟨a, b, c, d, e, f, g, h, i, j, k⟩
theorem strOfNums_app (x y : List Int) : strOfNums (x ++ y) = strOfNums x ++ strOfNums y := by
  apply ByteArray.ext
  apply Array.ext'
  simp [strOfNums]
def hexL (l : List Int) : List Int := l.flatMap hexN
theorem hexL_length (l : List Int) : (hexL l).length = 2 * l.length := by
  induction l with
  | nil => rfl
  | cons c l ih => simp only [hexL, List.flatMap_cons, List.length_append, List.length_cons] at ih ⊢; rw [ih, show (hexN c).length = 2 from rfl]; omega
theorem hex_eq (c : Int) (h : HexOk c) : hexA c ++ hexB c = strOfNums (hexN c) := by
  apply ByteArray.ext
  apply Array.ext'
  exact h.eq
theorem rd_at (pre suf : List Int) (c : Int) : rd (pre ++ c :: suf) (pre.length : Int) = c := by
  unfold rd
  simp
theorem hex_spec (suf : List Int) : ∀ (pre x : List Int), Fit8 suf → x.length + 2 * suf.length ≤ 1000000 → pre.length + suf.length ≤ 1000000 →
    PFnVerityBack.spec_Hexadecimal.l0 (suf.length + 1) x (pre ++ suf) ((pre ++ suf).length : Int) (pre.length : Int) = some (strOfNums (x ++ hexL suf)) := by
  induction suf with
  | nil =>
    intro pre x hf h1 h2
    simp [PFnVerityBack.spec_Hexadecimal.l0, hexL]
  | cons c suf ih =>
    intro pre x hf h1 h2
    have hc := hf c (by simp)
    have ho := hex_one c hc.1 hc.2
    have hlt : (pre.length : Int) < ((pre ++ c :: suf).length : Int) := by simp; omega
    have h0 : (0 : Int) ≤ (pre.length : Int) := by omega
    have hw : wrap64 ((pre.length : Int) + 1) = ((pre ++ [c]).length : Int) := by
      simp at h2 ⊢
      exact IntWalk.wrap64_in _ (by omega)
    have e : pre ++ c :: suf = (pre ++ [c]) ++ suf := by simp
    have hi := ih (pre ++ [c]) (x ++ hexN c) (fun y hy => hf y (by simp [hy])) (by simp [hexN] at h1 ⊢; omega) (by simp at h2 ⊢; omega)
    show PFnVerityBack.spec_Hexadecimal.l0 (suf.length + 1 + 1) x (pre ++ c :: suf) ((pre ++ c :: suf).length : Int) (pre.length : Int) = _
    unfold PFnVerityBack.spec_Hexadecimal.l0
    rw [if_pos hlt, if_pos h0, if_pos hlt, rd_at, if_pos ho.a0, if_pos ho.a3, if_pos ho.b0, if_pos ho.b3]
    simp only [Option.bind_some]
    rw [if_pos (by simp at h1 ⊢; omega), hw]
    show PFnVerityBack.spec_Hexadecimal.l0 (suf.length + 1) (x ++ hexN c) (pre ++ c :: suf) ((pre ++ c :: suf).length : Int) ((pre ++ [c]).length : Int) = _
    rw [e, hi, List.append_assoc]
    rfl
theorem hex_impl (suf : List Int) : ∀ (pre x : List Int), Fit8 suf → x.length + 2 * suf.length ≤ 1000000 → pre.length + suf.length ≤ 1000000 →
    PFnVerityBack.dmverity_hex.l0 (suf.length + 1) (strOfNums x) (pre ++ suf) ((pre ++ suf).length : Int) (pre.length : Int) = some (strOfNums (x ++ hexL suf)) := by
  induction suf with
  | nil =>
    intro pre x hf h1 h2
    simp [PFnVerityBack.dmverity_hex.l0, hexL]
  | cons c suf ih =>
    intro pre x hf h1 h2
    have hc := hf c (by simp)
    have ho := hex_one c hc.1 hc.2
    have hlt : (pre.length : Int) < ((pre ++ c :: suf).length : Int) := by simp; omega
    have h0 : (0 : Int) ≤ (pre.length : Int) := by omega
    have hw : wrap64 ((pre.length : Int) + 1) = ((pre ++ [c]).length : Int) := by
      simp at h2 ⊢
      exact IntWalk.wrap64_in _ (by omega)
    have e : pre ++ c :: suf = (pre ++ [c]) ++ suf := by simp
    have hi := ih (pre ++ [c]) (x ++ hexN c) (fun y hy => hf y (by simp [hy])) (by simp [hexN] at h1 ⊢; omega) (by simp at h2 ⊢; omega)
    have hs1 : (hexA c).size + (hexB c).size ≤ 9223372036854775807 := by rw [ho.sa, ho.sb]; decide
    have hs2 : (strOfNums x).size + (hexA c ++ hexB c).size ≤ 9223372036854775807 := by
      rw [ByteArray.size_append, ho.sa, ho.sb, strOfNums_size]
      simp at h1
      omega
    show PFnVerityBack.dmverity_hex.l0 (suf.length + 1 + 1) (strOfNums x) (pre ++ c :: suf) ((pre ++ c :: suf).length : Int) (pre.length : Int) = _
    unfold PFnVerityBack.dmverity_hex.l0
    rw [if_pos hlt, if_pos h0, if_pos hlt, rd_at, if_pos ho.a0, if_pos ho.a1, if_pos ho.a2, if_pos ho.b0, if_pos ho.b1, if_pos ho.b2]
    show (if (hexA c).size + (hexB c).size ≤ 9223372036854775807 then (if (strOfNums x).size + (hexA c ++ hexB c).size ≤ 9223372036854775807 then PFnVerityBack.dmverity_hex.l0 (suf.length + 1) (strOfNums x ++ (hexA c ++ hexB c)) (pre ++ c :: suf) ((pre ++ c :: suf).length : Int) (wrap64 ((pre.length : Int) + 1)) else none) else none) = _
    rw [if_pos hs1, if_pos hs2, hw, hex_eq c ho, ← strOfNums_app, e, hi, List.append_assoc]
    rfl
/-- What hexadecimal digits are. -/
def hexS (l : List Int) : ByteArray := strOfNums (hexL l)
theorem hex_f (l : List Int) (hf : Fit8 l) (hl : l.length ≤ 1000) : PFnVerityBack.dmverity_hex.f (l.length + 1) l = some (hexS l) := hex_impl l [] [] hf (by simp; omega) (by simp; omega)
theorem hexadecimal_f (l : List Int) (hf : Fit8 l) (hl : l.length ≤ 1000) : PFnVerityBack.spec_Hexadecimal.f (l.length + 1) l = some (hexS l) := hex_spec l [] [] hf (by simp; omega) (by simp; omega)
end Go.Proofs.YtfanlhkpblemgaaDoor
