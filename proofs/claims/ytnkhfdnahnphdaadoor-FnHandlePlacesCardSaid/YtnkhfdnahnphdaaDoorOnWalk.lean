/- The walks of on: what a step on an open file answers. -/
import Derived.Test.YtnkhfdnahnphdaaDoorFl
import Derived.LaidEqlPtr
namespace Go.Proofs.YtnkhfdnahnphdaaDoor
open Go.ChangeShapes Go.WideShapes Go.ChangeAt Go.RowKit Go.Rd
open Go.Proofs.YtnkhfdnahnphdaaDoorW.PrintWords Go.Proofs.YtnkhfdnahnphdaaDoorW.PrintLast Go.Proofs.YtnkhfdnahnphdaaDoorW.PrintMore

theorem assert_nil (W : World) : (Instr.typeAssert .nilIface 96 124 true).run Tryd.prog W = .ok (.tuple #[.pointer none, .bool false]) W := by kernel_rfl
theorem nil_nil (W : World) : (binOp .eql 96 .nilIface .nilIface).run Tryd.prog W = .ok (.bool true) W := by kernel_rfl
set_option maxHeartbeats 1000000 in
theorem kind_nil (w : World) : Calls Tryd.prog 46 #[Value.nilIface] w fun e w' => e = .returned (.int .i64 0) ∧ w = w' := by
  have h1 := assert_nil w
  have h2 := nil_nil w
  go_enter Tryd.func46, Tryd.ntmps46
  go_wp2
  go_ret
  exact ⟨rfl, rfl⟩

/-- A step as a value. -/
structure Stp where
  op : Int
  name : ByteArray
  other : ByteArray
  flag : Int
  perm : Int
  h : Int
  da : Option Addr
  dl : Nat
  dc : Nat
  off : Int
  wh : Int
  n : Int
def Stp.val (s : Stp) : Value := .agg #[.int .i64 s.op, .string s.name, .string s.other, .int .i64 s.flag, .int .i64 s.perm, .int .i64 s.h, .slice s.da s.dl s.dc, .int .i64 s.off, .int .i64 s.wh, .int .i64 s.n]
/-- An answer without names and infos as a value. -/
def ansVal (e n off : Int) (dv : Value) : Value := .agg #[.int .i64 e, .int .i64 n, .int .i64 off, dv, .slice none 0 0, .slice none 0 0]

set_option maxHeartbeats 1000000 in
theorem on_seek (f B : Nat) (dv : Value) (h : FH) (d : FD) (s : Stp) (w : World) (hop : s.op = 16) (hH : HandleIs w f h) (hD : DataIs w B h.fd dv d) (hcl : h.cl = false)
    (h1 : -1152921504606846976 ≤ h.at_ ∧ h.at_ ≤ 1152921504606846976) (h2 : -1152921504606846976 ≤ s.off ∧ s.off ≤ 1152921504606846976) (h3 : d.bs.length ≤ 1152921504606846976) :
    Calls Tryd.prog 23 #[.pointer (some ⟨f, 0, none⟩), s.val] w fun e w' => e = .returned (ansVal 0 0 (seekTo h d.bs.length s.off s.wh) (.slice none 0 0)) ∧ HandleIs w' f { h with at_ := seekTo h d.bs.length s.off s.wh } ∧ Wrote (fun k => k = f) w w' := by
  obtain ⟨op, name, other, flag, perm, hh, da, dl, dc, off, wh, n⟩ := s
  simp only at hop h2
  subst hop
  unfold Stp.val ansVal
  simp only
  have hb := seek_any f B dv h d off wh
  have HB : Hid (∀ (w : World), HandleIs w f h → DataIs w B h.fd dv d → Calls Tryd.prog 37 #[.pointer (some ⟨f, 0, none⟩), .int .i64 off, .int .i64 wh] w fun e w' => e = .returned (.tuple #[.int .i64 (seekTo h d.bs.length off wh), .nilIface]) ∧ HandleIs w' f { h with at_ := seekTo h d.bs.length off wh } ∧ Wrote (fun k => k = f) w w') := fun w a b => hb w a b hcl h1 h2 h3
  clear hb
  generalize seekTo h d.bs.length off wh = q at *
  go_enter Tryd.func23, Tryd.ntmps23
  have hfl : f < w.heap.size := lt_of_heap hH
  have k0 := kind_nil
  go_wp2_with (first
    | (go_at_call 37; refine (HB.out _ (hH.below (below3 _ _ _ _)) (hD.below (below3 _ _ _ _))).mono ?_; rintro e w4 ⟨rfl, hH4, hW4⟩; have h4 := (hW4.block (w.heap.size + 1) (by simp) (by omega)).trans (second_new _ _ _ _); have h5 := (hW4.block (w.heap.size + 1 + 1) (by simp) (by omega)).trans (third_new _ _ _ _); obtain ⟨⟨p0, p1, p2, p3, p4, p5⟩, q0, q1, q2, q3, q4, q5⟩ := cells6 h4; obtain ⟨⟨r0, r1, r2, r3, r4, r5⟩, s0, s1, s2, s3, s4, s5⟩ := cells6 h5; clear h4 h5)
    | (go_at_call 46; refine (kind_nil _).mono ?_; rintro e w5 ⟨rfl, rfl⟩))
  refine bodyPost_ret (v := ansVal 0 0 q (.slice none 0 0)) (by simp [results, Tryd.results23, go_sem, ansVal, p0, p1, p2, p3, p4, p5]) rfl ⟨rfl, ?_, ?_⟩
  · repeat (first | with_reducible exact hH4 | (with_reducible refine HandleIs.set ?_ ?_ _; rotate_left; (show f ≠ _; simp only []; omega)))
  · have hW := (Wrote.of_below (S := fun k => k = f) (below3 w _ _ _)).trans hW4
    repeat (first | with_reducible exact hW | (with_reducible refine wrote_new ?_ ?_ _; rotate_left; (simp only []; omega)))
end Go.Proofs.YtnkhfdnahnphdaaDoor
