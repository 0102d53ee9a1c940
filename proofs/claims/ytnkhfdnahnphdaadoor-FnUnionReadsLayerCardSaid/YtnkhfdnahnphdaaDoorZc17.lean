/- Parts of the proof, merged: Sj. -/
import Derived.Test.YtnkhfdnahnphdaaDoorZc16
section
namespace Go.Proofs.YtnkhfdnahnphdaaDoor
open Go.ChangeShapes Go.WideShapes Go.ChangeAt Go.RowKit Go.Rd
open Go.Proofs.YtnkhfdnahnphdaaDoorW.PrintWords Go.Proofs.YtnkhfdnahnphdaaDoorW.PrintLast Go.Proofs.YtnkhfdnahnphdaaDoorW.PrintMore
set_option linter.unusedVariables false
set_option linter.unusedSimpArgs false
namespace Sb
def OpF (op : Int) : Prop := op = 12 ∨ op = 14 ∨ op = 15 ∨ op = 16 ∨ op = 17
/-- What is so if it speaks. -/
structure SpkF (s : St) (x : Stp) : Prop where
  fits : 12 ≤ x.op → x.op ≤ 17 → 0 ≤ x.n ∧ x.n ≤ 4096 ∧ -1099511627776 ≤ x.off ∧ x.off ≤ 1099511627776
  read : x.op = 12 → s.cl = true ∨ 0 ≤ s.at_
  write : x.op = 14 → 0 ≤ s.at_ ∧ s.at_ ≤ 4096
  writeAt : x.op = 15 → 0 ≤ x.off ∧ x.off ≤ 4096
  trunc : x.op = 17 → x.off ≤ 4096
  seek : x.op = 16 → -2199023255552 < s.at_ ∧ s.at_ < 2199023255552
def SpeaksPost (w : World) (s : St) (x : Stp) (e : Ending) (w' : World) : Prop := ∃ r : Bool, e = .returned (.bool r) ∧ Below w.heap.size w w' ∧ (r = true → SpkF s x)
set_option maxRecDepth 100000 in
set_option maxHeartbeats 2000000 in
theorem speaks_18 (m hb B mb : Nat) (nv av dv : Value) (l : List SN) (h : SH) (s : Stp) (w : World) (hop : s.op = 18) (hM : MemIs w m nv av dv mb) (hH : SHIs w hb h) (hN : NodesIs w B dv l) (hi : h.node < l.length) (hdir : l[h.node].dir = false) :
    Calls Tryd.prog 51 #[.pointer (some ⟨m, 0, none⟩), .pointer (some ⟨hb, 0, none⟩), s.val] w (SpeaksPost w (stOf h l[h.node]) s) := by
  obtain ⟨op, name, other, flag, perm, hh, da, dl, dc, off, wh, n⟩ := s
  obtain ⟨node, at_, listed, cl, ro⟩ := h
  simp only [stOf] at hop hi hdir ⊢
  subst hop
  unfold Stp.val
  simp only
  go_enter Tryd.func51, Tryd.ntmps51
  go_upto_region 1 with fail
  refine world_as (fun W => Below w.heap.size w W ∧ W.heap[w.heap.size]? = some (.cells #[.int .i64 18, .string name, .string other, .int .i64 flag, .int .i64 perm, .int .i64 hh, .slice da dl dc, .int .i64 off, .int .i64 wh, .int .i64 n] tStep (0, 0))) ⟨(Below.refl _ _).alloc (Nat.le_refl _) _, alloc_new _ _⟩ (fun W hW => ?_)
  obtain ⟨hB0, hs0⟩ := hW
  have hM1 := hM.below hB0
  have hH1 := hH.below hB0
  have hN1 := NodesIs.below hN hB0
  obtain ⟨nb, cap, v, rfl, hle, hnb, ⟨x0, x1, x2, x3, x4⟩, hov, hf, hz⟩ := NodesIs.at hN1 hi
  obtain ⟨vA, vc, rfl, hby⟩ := BytesIn.own hov hf
  have m2 := (cell_of hM1 2).trans rfl
  have c0 := (cell_of hH1 0).trans rfl
  have n1 : w.heap.size ≠ hb := blk_ne hs0 hH1 (by decide)
  have n3 : w.heap.size ≠ nb := by obtain ⟨c, hc⟩ := hnb; exact blk_ne hs0 hc (by decide)
  obtain ⟨sb, hsb⟩ : ∃ sb, w.heap.size = sb := ⟨_, rfl⟩
  rw [hsb] at hs0 n1 n3 ⊢
  have HSB := Lib.hid hsb
  have HH := Lib.hid hH1
  have HM := Lib.hid hM1
  have HS0 := Lib.hid hs0
  have HB0 := Lib.hid hB0
  rw [hdir] at x0
  clear hle hnb hov hf hz hby hM hH hN hM1 hH1 hN1 hsb hs0 hB0 hdir
  go_region_held3 (fun w' => w'.cell? ⟨m, 2, none⟩ = some (.slice (some ⟨nb, 0, none⟩) l.length cap) ∧ w'.cell? ⟨hb, 0, none⟩ = some (.int .i64 (node : Int)) ∧ w'.cell? ⟨nb, node * 5, none⟩ = some (.bool false) ∧ w'.cell? ⟨nb, node * 5 + 1, none⟩ = some (.int .i64 l[node].mode) ∧ w'.cell? ⟨nb, node * 5 + 2, none⟩ = some (.slice vA l[node].bs.length vc) ∧ w'.cell? ⟨nb, node * 5 + 3, none⟩ = some (.int .i64 l[node].time) ∧ w'.cell? ⟨nb, node * 5 + 4, none⟩ = some (.string l[node].nm)) (first | go_keep | (go_split_ands; refine ⟨?_, ?_, ?_, ?_, ?_, ?_, ?_⟩ <;> assumption)) (fail)
  go_upto_region 2 with fail
  refine world_as (fun W' => Below W.heap.size W W' ∧ W'.heap[W.heap.size]? = some (.cells #[.bool false, .int .i64 l[node].mode, .slice vA l[node].bs.length vc, .int .i64 l[node].time, .string l[node].nm] tN (0, 0))) ⟨pw_below_drewN ((Below.refl W.heap.size W).alloc (Nat.le_refl _) (.cells #[.bool false, .int .i64 l[node].mode, .slice vA l[node].bs.length vc, .int .i64 l[node].time, .string l[node].nm] tN)) 1, alloc_new W _⟩ (fun W2 hW2 => ?_)
  obtain ⟨hB2, ht2⟩ := hW2
  have hs2 := (hB2.block _ (lt_of_heap HS0.out)).trans HS0.out
  have hH2 := HH.out.below hB2
  have hM2 := HM.out.below hB2
  obtain ⟨tb, htb⟩ : ∃ tb, W.heap.size = tb := ⟨_, rfl⟩
  rw [htb] at ht2 ⊢
  clear x0 x1 x2 x3 x4 m2 c0 n1 n3
  have t0 := (cell_of ht2 0).trans rfl
  have t4 := (cell_of ht2 4).trans rfl
  have s0 := (cell_of hs2 0).trans rfl
  have s6 := (cell_of hs2 6).trans rfl
  have s7 := (cell_of hs2 7).trans rfl
  have s9 := (cell_of hs2 9).trans rfl
  have c0 := (cell_of hH2 0).trans rfl
  have c1 := (cell_of hH2 1).trans rfl
  have c3 := (cell_of hH2 3).trans rfl
  have hBB := HB0.out.trans (hB2.mono HB0.out.size)
  have HBB := Lib.hid hBB
  have HM2 := Lib.hid hM2
  clear hB2 ht2 hs2 hH2 hM2 hBB htb
  go_wp2_with fail
  go_ret
  exact ⟨true, rfl, HBB.out, fun _ => ⟨fun h1 h2 => by simp only at h1 h2; omega, fun h => by simp only at h; omega, fun h => by simp only at h; omega, fun h => by simp only at h; omega, fun h => by simp only at h; omega, fun h => by simp only at h; omega⟩⟩
set_option maxRecDepth 100000 in
set_option maxHeartbeats 2000000 in
theorem speaks_23 (m hb B mb : Nat) (nv av dv : Value) (l : List SN) (h : SH) (s : Stp) (w : World) (hop : s.op = 23) (hM : MemIs w m nv av dv mb) (hH : SHIs w hb h) (hN : NodesIs w B dv l) (hi : h.node < l.length) (hdir : l[h.node].dir = false) :
    Calls Tryd.prog 51 #[.pointer (some ⟨m, 0, none⟩), .pointer (some ⟨hb, 0, none⟩), s.val] w (SpeaksPost w (stOf h l[h.node]) s) := by
  obtain ⟨op, name, other, flag, perm, hh, da, dl, dc, off, wh, n⟩ := s
  obtain ⟨node, at_, listed, cl, ro⟩ := h
  simp only [stOf] at hop hi hdir ⊢
  subst hop
  unfold Stp.val
  simp only
  go_enter Tryd.func51, Tryd.ntmps51
  go_upto_region 1 with fail
  refine world_as (fun W => Below w.heap.size w W ∧ W.heap[w.heap.size]? = some (.cells #[.int .i64 23, .string name, .string other, .int .i64 flag, .int .i64 perm, .int .i64 hh, .slice da dl dc, .int .i64 off, .int .i64 wh, .int .i64 n] tStep (0, 0))) ⟨(Below.refl _ _).alloc (Nat.le_refl _) _, alloc_new _ _⟩ (fun W hW => ?_)
  obtain ⟨hB0, hs0⟩ := hW
  have hM1 := hM.below hB0
  have hH1 := hH.below hB0
  have hN1 := NodesIs.below hN hB0
  obtain ⟨nb, cap, v, rfl, hle, hnb, ⟨x0, x1, x2, x3, x4⟩, hov, hf, hz⟩ := NodesIs.at hN1 hi
  obtain ⟨vA, vc, rfl, hby⟩ := BytesIn.own hov hf
  have m2 := (cell_of hM1 2).trans rfl
  have c0 := (cell_of hH1 0).trans rfl
  have n1 : w.heap.size ≠ hb := blk_ne hs0 hH1 (by decide)
  have n3 : w.heap.size ≠ nb := by obtain ⟨c, hc⟩ := hnb; exact blk_ne hs0 hc (by decide)
  obtain ⟨sb, hsb⟩ : ∃ sb, w.heap.size = sb := ⟨_, rfl⟩
  rw [hsb] at hs0 n1 n3 ⊢
  have HSB := Lib.hid hsb
  have HH := Lib.hid hH1
  have HM := Lib.hid hM1
  have HS0 := Lib.hid hs0
  have HB0 := Lib.hid hB0
  rw [hdir] at x0
  clear hle hnb hov hf hz hby hM hH hN hM1 hH1 hN1 hsb hs0 hB0 hdir
  go_region_held3 (fun w' => w'.cell? ⟨m, 2, none⟩ = some (.slice (some ⟨nb, 0, none⟩) l.length cap) ∧ w'.cell? ⟨hb, 0, none⟩ = some (.int .i64 (node : Int)) ∧ w'.cell? ⟨nb, node * 5, none⟩ = some (.bool false) ∧ w'.cell? ⟨nb, node * 5 + 1, none⟩ = some (.int .i64 l[node].mode) ∧ w'.cell? ⟨nb, node * 5 + 2, none⟩ = some (.slice vA l[node].bs.length vc) ∧ w'.cell? ⟨nb, node * 5 + 3, none⟩ = some (.int .i64 l[node].time) ∧ w'.cell? ⟨nb, node * 5 + 4, none⟩ = some (.string l[node].nm)) (first | go_keep | (go_split_ands; refine ⟨?_, ?_, ?_, ?_, ?_, ?_, ?_⟩ <;> assumption)) (fail)
  go_upto_region 2 with fail
  refine world_as (fun W' => Below W.heap.size W W' ∧ W'.heap[W.heap.size]? = some (.cells #[.bool false, .int .i64 l[node].mode, .slice vA l[node].bs.length vc, .int .i64 l[node].time, .string l[node].nm] tN (0, 0))) ⟨pw_below_drewN ((Below.refl W.heap.size W).alloc (Nat.le_refl _) (.cells #[.bool false, .int .i64 l[node].mode, .slice vA l[node].bs.length vc, .int .i64 l[node].time, .string l[node].nm] tN)) 1, alloc_new W _⟩ (fun W2 hW2 => ?_)
  obtain ⟨hB2, ht2⟩ := hW2
  have hs2 := (hB2.block _ (lt_of_heap HS0.out)).trans HS0.out
  have hH2 := HH.out.below hB2
  have hM2 := HM.out.below hB2
  obtain ⟨tb, htb⟩ : ∃ tb, W.heap.size = tb := ⟨_, rfl⟩
  rw [htb] at ht2 ⊢
  clear x0 x1 x2 x3 x4 m2 c0 n1 n3
  have t0 := (cell_of ht2 0).trans rfl
  have t4 := (cell_of ht2 4).trans rfl
  have s0 := (cell_of hs2 0).trans rfl
  have s6 := (cell_of hs2 6).trans rfl
  have s7 := (cell_of hs2 7).trans rfl
  have s9 := (cell_of hs2 9).trans rfl
  have c0 := (cell_of hH2 0).trans rfl
  have c1 := (cell_of hH2 1).trans rfl
  have c3 := (cell_of hH2 3).trans rfl
  have hBB := HB0.out.trans (hB2.mono HB0.out.size)
  have HBB := Lib.hid hBB
  have HM2 := Lib.hid hM2
  clear hB2 ht2 hs2 hH2 hM2 hBB htb
  go_wp2_with fail
  go_ret
  exact ⟨true, rfl, HBB.out, fun _ => ⟨fun h1 h2 => by simp only at h1 h2; omega, fun h => by simp only at h; omega, fun h => by simp only at h; omega, fun h => by simp only at h; omega, fun h => by simp only at h; omega, fun h => by simp only at h; omega⟩⟩
set_option maxRecDepth 100000 in
set_option maxHeartbeats 2000000 in
theorem speaks_no_dl (m hb B mb : Nat) (nv av dv : Value) (l : List SN) (h : SH) (s : Stp) (w : World) (hop : OpF s.op) (hM : MemIs w m nv av dv mb) (hH : SHIs w hb h) (hN : NodesIs w B dv l) (hi : h.node < l.length) (hdir : l[h.node].dir = false) (gdl : 4096 < s.dl) :
    Calls Tryd.prog 51 #[.pointer (some ⟨m, 0, none⟩), .pointer (some ⟨hb, 0, none⟩), s.val] w (SpeaksPost w (stOf h l[h.node]) s) := by
  obtain ⟨op, name, other, flag, perm, hh, da, dl, dc, off, wh, n⟩ := s
  obtain ⟨node, at_, listed, cl, ro⟩ := h
  simp only [stOf] at hop hi hdir  gdl ⊢
  skip
  unfold Stp.val
  simp only
  go_enter Tryd.func51, Tryd.ntmps51
  go_upto_region 1 with fail
  refine world_as (fun W => Below w.heap.size w W ∧ W.heap[w.heap.size]? = some (.cells #[.int .i64 op, .string name, .string other, .int .i64 flag, .int .i64 perm, .int .i64 hh, .slice da dl dc, .int .i64 off, .int .i64 wh, .int .i64 n] tStep (0, 0))) ⟨(Below.refl _ _).alloc (Nat.le_refl _) _, alloc_new _ _⟩ (fun W hW => ?_)
  obtain ⟨hB0, hs0⟩ := hW
  have hM1 := hM.below hB0
  have hH1 := hH.below hB0
  have hN1 := NodesIs.below hN hB0
  obtain ⟨nb, cap, v, rfl, hle, hnb, ⟨x0, x1, x2, x3, x4⟩, hov, hf, hz⟩ := NodesIs.at hN1 hi
  obtain ⟨vA, vc, rfl, hby⟩ := BytesIn.own hov hf
  have m2 := (cell_of hM1 2).trans rfl
  have c0 := (cell_of hH1 0).trans rfl
  have n1 : w.heap.size ≠ hb := blk_ne hs0 hH1 (by decide)
  have n3 : w.heap.size ≠ nb := by obtain ⟨c, hc⟩ := hnb; exact blk_ne hs0 hc (by decide)
  obtain ⟨sb, hsb⟩ : ∃ sb, w.heap.size = sb := ⟨_, rfl⟩
  rw [hsb] at hs0 n1 n3 ⊢
  have HSB := Lib.hid hsb
  have HH := Lib.hid hH1
  have HM := Lib.hid hM1
  have HS0 := Lib.hid hs0
  have HB0 := Lib.hid hB0
  rw [hdir] at x0
  clear hle hnb hov hf hz hby hM hH hN hM1 hH1 hN1 hsb hs0 hB0 hdir
  go_region_held3 (fun w' => w'.cell? ⟨m, 2, none⟩ = some (.slice (some ⟨nb, 0, none⟩) l.length cap) ∧ w'.cell? ⟨hb, 0, none⟩ = some (.int .i64 (node : Int)) ∧ w'.cell? ⟨nb, node * 5, none⟩ = some (.bool false) ∧ w'.cell? ⟨nb, node * 5 + 1, none⟩ = some (.int .i64 l[node].mode) ∧ w'.cell? ⟨nb, node * 5 + 2, none⟩ = some (.slice vA l[node].bs.length vc) ∧ w'.cell? ⟨nb, node * 5 + 3, none⟩ = some (.int .i64 l[node].time) ∧ w'.cell? ⟨nb, node * 5 + 4, none⟩ = some (.string l[node].nm)) (first | go_keep | (go_split_ands; refine ⟨?_, ?_, ?_, ?_, ?_, ?_, ?_⟩ <;> assumption)) (fail)
  go_upto_region 2 with fail
  refine world_as (fun W' => Below W.heap.size W W' ∧ W'.heap[W.heap.size]? = some (.cells #[.bool false, .int .i64 l[node].mode, .slice vA l[node].bs.length vc, .int .i64 l[node].time, .string l[node].nm] tN (0, 0))) ⟨pw_below_drewN ((Below.refl W.heap.size W).alloc (Nat.le_refl _) (.cells #[.bool false, .int .i64 l[node].mode, .slice vA l[node].bs.length vc, .int .i64 l[node].time, .string l[node].nm] tN)) 1, alloc_new W _⟩ (fun W2 hW2 => ?_)
  obtain ⟨hB2, ht2⟩ := hW2
  have hs2 := (hB2.block _ (lt_of_heap HS0.out)).trans HS0.out
  have hH2 := HH.out.below hB2
  have hM2 := HM.out.below hB2
  obtain ⟨tb, htb⟩ : ∃ tb, W.heap.size = tb := ⟨_, rfl⟩
  rw [htb] at ht2 ⊢
  clear x0 x1 x2 x3 x4 m2 c0 n1 n3
  have t0 := (cell_of ht2 0).trans rfl
  have t4 := (cell_of ht2 4).trans rfl
  have s0 := (cell_of hs2 0).trans rfl
  have s6 := (cell_of hs2 6).trans rfl
  have s7 := (cell_of hs2 7).trans rfl
  have s9 := (cell_of hs2 9).trans rfl
  have c0 := (cell_of hH2 0).trans rfl
  have c1 := (cell_of hH2 1).trans rfl
  have c3 := (cell_of hH2 3).trans rfl
  have hBB := HB0.out.trans (hB2.mono HB0.out.size)
  have HBB := Lib.hid hBB
  have HM2 := Lib.hid hM2
  clear hB2 ht2 hs2 hH2 hM2 hBB htb
  have e18 : (op == 18) = false := beq_eq_false_iff_ne.2 (by unfold OpF at hop; omega)
  have e19 : (op == 19) = false := beq_eq_false_iff_ne.2 (by unfold OpF at hop; omega)
  have e20 : (op == 20) = false := beq_eq_false_iff_ne.2 (by unfold OpF at hop; omega)
  have e21 : (op == 21) = false := beq_eq_false_iff_ne.2 (by unfold OpF at hop; omega)
  have e22 : (op == 22) = false := beq_eq_false_iff_ne.2 (by unfold OpF at hop; omega)
  have e23 : (op == 23) = false := beq_eq_false_iff_ne.2 (by unfold OpF at hop; omega)
  have kdl : decide ((4096 : Int) < (dl : Int)) = true := by simp; omega
  clear hop  gdl
  go_wp2_with fail
  go_ret
  exact ⟨false, rfl, HBB.out, fun h => by cases h⟩
set_option maxRecDepth 100000 in
set_option maxHeartbeats 2000000 in
theorem speaks_no_n0 (m hb B mb : Nat) (nv av dv : Value) (l : List SN) (h : SH) (s : Stp) (w : World) (hop : OpF s.op) (hM : MemIs w m nv av dv mb) (hH : SHIs w hb h) (hN : NodesIs w B dv l) (hi : h.node < l.length) (hdir : l[h.node].dir = false) (gdl : s.dl ≤ 4096) (gn0 : s.n < 0) :
    Calls Tryd.prog 51 #[.pointer (some ⟨m, 0, none⟩), .pointer (some ⟨hb, 0, none⟩), s.val] w (SpeaksPost w (stOf h l[h.node]) s) := by
  obtain ⟨op, name, other, flag, perm, hh, da, dl, dc, off, wh, n⟩ := s
  obtain ⟨node, at_, listed, cl, ro⟩ := h
  simp only [stOf] at hop hi hdir gdl gn0 ⊢
  skip
  unfold Stp.val
  simp only
  go_enter Tryd.func51, Tryd.ntmps51
  go_upto_region 1 with fail
  refine world_as (fun W => Below w.heap.size w W ∧ W.heap[w.heap.size]? = some (.cells #[.int .i64 op, .string name, .string other, .int .i64 flag, .int .i64 perm, .int .i64 hh, .slice da dl dc, .int .i64 off, .int .i64 wh, .int .i64 n] tStep (0, 0))) ⟨(Below.refl _ _).alloc (Nat.le_refl _) _, alloc_new _ _⟩ (fun W hW => ?_)
  obtain ⟨hB0, hs0⟩ := hW
  have hM1 := hM.below hB0
  have hH1 := hH.below hB0
  have hN1 := NodesIs.below hN hB0
  obtain ⟨nb, cap, v, rfl, hle, hnb, ⟨x0, x1, x2, x3, x4⟩, hov, hf, hz⟩ := NodesIs.at hN1 hi
  obtain ⟨vA, vc, rfl, hby⟩ := BytesIn.own hov hf
  have m2 := (cell_of hM1 2).trans rfl
  have c0 := (cell_of hH1 0).trans rfl
  have n1 : w.heap.size ≠ hb := blk_ne hs0 hH1 (by decide)
  have n3 : w.heap.size ≠ nb := by obtain ⟨c, hc⟩ := hnb; exact blk_ne hs0 hc (by decide)
  obtain ⟨sb, hsb⟩ : ∃ sb, w.heap.size = sb := ⟨_, rfl⟩
  rw [hsb] at hs0 n1 n3 ⊢
  have HSB := Lib.hid hsb
  have HH := Lib.hid hH1
  have HM := Lib.hid hM1
  have HS0 := Lib.hid hs0
  have HB0 := Lib.hid hB0
  rw [hdir] at x0
  clear hle hnb hov hf hz hby hM hH hN hM1 hH1 hN1 hsb hs0 hB0 hdir
  go_region_held3 (fun w' => w'.cell? ⟨m, 2, none⟩ = some (.slice (some ⟨nb, 0, none⟩) l.length cap) ∧ w'.cell? ⟨hb, 0, none⟩ = some (.int .i64 (node : Int)) ∧ w'.cell? ⟨nb, node * 5, none⟩ = some (.bool false) ∧ w'.cell? ⟨nb, node * 5 + 1, none⟩ = some (.int .i64 l[node].mode) ∧ w'.cell? ⟨nb, node * 5 + 2, none⟩ = some (.slice vA l[node].bs.length vc) ∧ w'.cell? ⟨nb, node * 5 + 3, none⟩ = some (.int .i64 l[node].time) ∧ w'.cell? ⟨nb, node * 5 + 4, none⟩ = some (.string l[node].nm)) (first | go_keep | (go_split_ands; refine ⟨?_, ?_, ?_, ?_, ?_, ?_, ?_⟩ <;> assumption)) (fail)
  go_upto_region 2 with fail
  refine world_as (fun W' => Below W.heap.size W W' ∧ W'.heap[W.heap.size]? = some (.cells #[.bool false, .int .i64 l[node].mode, .slice vA l[node].bs.length vc, .int .i64 l[node].time, .string l[node].nm] tN (0, 0))) ⟨pw_below_drewN ((Below.refl W.heap.size W).alloc (Nat.le_refl _) (.cells #[.bool false, .int .i64 l[node].mode, .slice vA l[node].bs.length vc, .int .i64 l[node].time, .string l[node].nm] tN)) 1, alloc_new W _⟩ (fun W2 hW2 => ?_)
  obtain ⟨hB2, ht2⟩ := hW2
  have hs2 := (hB2.block _ (lt_of_heap HS0.out)).trans HS0.out
  have hH2 := HH.out.below hB2
  have hM2 := HM.out.below hB2
  obtain ⟨tb, htb⟩ : ∃ tb, W.heap.size = tb := ⟨_, rfl⟩
  rw [htb] at ht2 ⊢
  clear x0 x1 x2 x3 x4 m2 c0 n1 n3
  have t0 := (cell_of ht2 0).trans rfl
  have t4 := (cell_of ht2 4).trans rfl
  have s0 := (cell_of hs2 0).trans rfl
  have s6 := (cell_of hs2 6).trans rfl
  have s7 := (cell_of hs2 7).trans rfl
  have s9 := (cell_of hs2 9).trans rfl
  have c0 := (cell_of hH2 0).trans rfl
  have c1 := (cell_of hH2 1).trans rfl
  have c3 := (cell_of hH2 3).trans rfl
  have hBB := HB0.out.trans (hB2.mono HB0.out.size)
  have HBB := Lib.hid hBB
  have HM2 := Lib.hid hM2
  clear hB2 ht2 hs2 hH2 hM2 hBB htb
  have e18 : (op == 18) = false := beq_eq_false_iff_ne.2 (by unfold OpF at hop; omega)
  have e19 : (op == 19) = false := beq_eq_false_iff_ne.2 (by unfold OpF at hop; omega)
  have e20 : (op == 20) = false := beq_eq_false_iff_ne.2 (by unfold OpF at hop; omega)
  have e21 : (op == 21) = false := beq_eq_false_iff_ne.2 (by unfold OpF at hop; omega)
  have e22 : (op == 22) = false := beq_eq_false_iff_ne.2 (by unfold OpF at hop; omega)
  have e23 : (op == 23) = false := beq_eq_false_iff_ne.2 (by unfold OpF at hop; omega)
  have kdl : decide ((4096 : Int) < (dl : Int)) = false := by simp; omega
  have kn0 : decide (n < 0) = true := by simp; omega
  clear hop gdl gn0
  go_wp2_with fail
  go_ret
  exact ⟨false, rfl, HBB.out, fun h => by cases h⟩
set_option maxRecDepth 100000 in
set_option maxHeartbeats 2000000 in
theorem speaks_no_n1 (m hb B mb : Nat) (nv av dv : Value) (l : List SN) (h : SH) (s : Stp) (w : World) (hop : OpF s.op) (hM : MemIs w m nv av dv mb) (hH : SHIs w hb h) (hN : NodesIs w B dv l) (hi : h.node < l.length) (hdir : l[h.node].dir = false) (gdl : s.dl ≤ 4096) (gn0 : 0 ≤ s.n) (gn1 : 4096 < s.n) :
    Calls Tryd.prog 51 #[.pointer (some ⟨m, 0, none⟩), .pointer (some ⟨hb, 0, none⟩), s.val] w (SpeaksPost w (stOf h l[h.node]) s) := by
  obtain ⟨op, name, other, flag, perm, hh, da, dl, dc, off, wh, n⟩ := s
  obtain ⟨node, at_, listed, cl, ro⟩ := h
  simp only [stOf] at hop hi hdir gdl gn0 gn1 ⊢
  skip
  unfold Stp.val
  simp only
  go_enter Tryd.func51, Tryd.ntmps51
  go_upto_region 1 with fail
  refine world_as (fun W => Below w.heap.size w W ∧ W.heap[w.heap.size]? = some (.cells #[.int .i64 op, .string name, .string other, .int .i64 flag, .int .i64 perm, .int .i64 hh, .slice da dl dc, .int .i64 off, .int .i64 wh, .int .i64 n] tStep (0, 0))) ⟨(Below.refl _ _).alloc (Nat.le_refl _) _, alloc_new _ _⟩ (fun W hW => ?_)
  obtain ⟨hB0, hs0⟩ := hW
  have hM1 := hM.below hB0
  have hH1 := hH.below hB0
  have hN1 := NodesIs.below hN hB0
  obtain ⟨nb, cap, v, rfl, hle, hnb, ⟨x0, x1, x2, x3, x4⟩, hov, hf, hz⟩ := NodesIs.at hN1 hi
  obtain ⟨vA, vc, rfl, hby⟩ := BytesIn.own hov hf
  have m2 := (cell_of hM1 2).trans rfl
  have c0 := (cell_of hH1 0).trans rfl
  have n1 : w.heap.size ≠ hb := blk_ne hs0 hH1 (by decide)
  have n3 : w.heap.size ≠ nb := by obtain ⟨c, hc⟩ := hnb; exact blk_ne hs0 hc (by decide)
  obtain ⟨sb, hsb⟩ : ∃ sb, w.heap.size = sb := ⟨_, rfl⟩
  rw [hsb] at hs0 n1 n3 ⊢
  have HSB := Lib.hid hsb
  have HH := Lib.hid hH1
  have HM := Lib.hid hM1
  have HS0 := Lib.hid hs0
  have HB0 := Lib.hid hB0
  rw [hdir] at x0
  clear hle hnb hov hf hz hby hM hH hN hM1 hH1 hN1 hsb hs0 hB0 hdir
  go_region_held3 (fun w' => w'.cell? ⟨m, 2, none⟩ = some (.slice (some ⟨nb, 0, none⟩) l.length cap) ∧ w'.cell? ⟨hb, 0, none⟩ = some (.int .i64 (node : Int)) ∧ w'.cell? ⟨nb, node * 5, none⟩ = some (.bool false) ∧ w'.cell? ⟨nb, node * 5 + 1, none⟩ = some (.int .i64 l[node].mode) ∧ w'.cell? ⟨nb, node * 5 + 2, none⟩ = some (.slice vA l[node].bs.length vc) ∧ w'.cell? ⟨nb, node * 5 + 3, none⟩ = some (.int .i64 l[node].time) ∧ w'.cell? ⟨nb, node * 5 + 4, none⟩ = some (.string l[node].nm)) (first | go_keep | (go_split_ands; refine ⟨?_, ?_, ?_, ?_, ?_, ?_, ?_⟩ <;> assumption)) (fail)
  go_upto_region 2 with fail
  refine world_as (fun W' => Below W.heap.size W W' ∧ W'.heap[W.heap.size]? = some (.cells #[.bool false, .int .i64 l[node].mode, .slice vA l[node].bs.length vc, .int .i64 l[node].time, .string l[node].nm] tN (0, 0))) ⟨pw_below_drewN ((Below.refl W.heap.size W).alloc (Nat.le_refl _) (.cells #[.bool false, .int .i64 l[node].mode, .slice vA l[node].bs.length vc, .int .i64 l[node].time, .string l[node].nm] tN)) 1, alloc_new W _⟩ (fun W2 hW2 => ?_)
  obtain ⟨hB2, ht2⟩ := hW2
  have hs2 := (hB2.block _ (lt_of_heap HS0.out)).trans HS0.out
  have hH2 := HH.out.below hB2
  have hM2 := HM.out.below hB2
  obtain ⟨tb, htb⟩ : ∃ tb, W.heap.size = tb := ⟨_, rfl⟩
  rw [htb] at ht2 ⊢
  clear x0 x1 x2 x3 x4 m2 c0 n1 n3
  have t0 := (cell_of ht2 0).trans rfl
  have t4 := (cell_of ht2 4).trans rfl
  have s0 := (cell_of hs2 0).trans rfl
  have s6 := (cell_of hs2 6).trans rfl
  have s7 := (cell_of hs2 7).trans rfl
  have s9 := (cell_of hs2 9).trans rfl
  have c0 := (cell_of hH2 0).trans rfl
  have c1 := (cell_of hH2 1).trans rfl
  have c3 := (cell_of hH2 3).trans rfl
  have hBB := HB0.out.trans (hB2.mono HB0.out.size)
  have HBB := Lib.hid hBB
  have HM2 := Lib.hid hM2
  clear hB2 ht2 hs2 hH2 hM2 hBB htb
  have e18 : (op == 18) = false := beq_eq_false_iff_ne.2 (by unfold OpF at hop; omega)
  have e19 : (op == 19) = false := beq_eq_false_iff_ne.2 (by unfold OpF at hop; omega)
  have e20 : (op == 20) = false := beq_eq_false_iff_ne.2 (by unfold OpF at hop; omega)
  have e21 : (op == 21) = false := beq_eq_false_iff_ne.2 (by unfold OpF at hop; omega)
  have e22 : (op == 22) = false := beq_eq_false_iff_ne.2 (by unfold OpF at hop; omega)
  have e23 : (op == 23) = false := beq_eq_false_iff_ne.2 (by unfold OpF at hop; omega)
  have kdl : decide ((4096 : Int) < (dl : Int)) = false := by simp; omega
  have kn0 : decide (n < 0) = false := by simp; omega
  have kn1 : decide ((4096 : Int) < n) = true := by simp; omega
  clear hop gdl gn0 gn1
  go_wp2_with fail
  go_ret
  exact ⟨false, rfl, HBB.out, fun h => by cases h⟩
set_option maxRecDepth 100000 in
set_option maxHeartbeats 2000000 in
theorem speaks_no_o1 (m hb B mb : Nat) (nv av dv : Value) (l : List SN) (h : SH) (s : Stp) (w : World) (hop : OpF s.op) (hM : MemIs w m nv av dv mb) (hH : SHIs w hb h) (hN : NodesIs w B dv l) (hi : h.node < l.length) (hdir : l[h.node].dir = false) (gdl : s.dl ≤ 4096) (gn0 : 0 ≤ s.n) (gn1 : s.n ≤ 4096) (go1 : 1099511627776 < s.off) :
    Calls Tryd.prog 51 #[.pointer (some ⟨m, 0, none⟩), .pointer (some ⟨hb, 0, none⟩), s.val] w (SpeaksPost w (stOf h l[h.node]) s) := by
  obtain ⟨op, name, other, flag, perm, hh, da, dl, dc, off, wh, n⟩ := s
  obtain ⟨node, at_, listed, cl, ro⟩ := h
  simp only [stOf] at hop hi hdir gdl gn0 gn1 go1 ⊢
  skip
  unfold Stp.val
  simp only
  go_enter Tryd.func51, Tryd.ntmps51
  go_upto_region 1 with fail
  refine world_as (fun W => Below w.heap.size w W ∧ W.heap[w.heap.size]? = some (.cells #[.int .i64 op, .string name, .string other, .int .i64 flag, .int .i64 perm, .int .i64 hh, .slice da dl dc, .int .i64 off, .int .i64 wh, .int .i64 n] tStep (0, 0))) ⟨(Below.refl _ _).alloc (Nat.le_refl _) _, alloc_new _ _⟩ (fun W hW => ?_)
  obtain ⟨hB0, hs0⟩ := hW
  have hM1 := hM.below hB0
  have hH1 := hH.below hB0
  have hN1 := NodesIs.below hN hB0
  obtain ⟨nb, cap, v, rfl, hle, hnb, ⟨x0, x1, x2, x3, x4⟩, hov, hf, hz⟩ := NodesIs.at hN1 hi
  obtain ⟨vA, vc, rfl, hby⟩ := BytesIn.own hov hf
  have m2 := (cell_of hM1 2).trans rfl
  have c0 := (cell_of hH1 0).trans rfl
  have n1 : w.heap.size ≠ hb := blk_ne hs0 hH1 (by decide)
  have n3 : w.heap.size ≠ nb := by obtain ⟨c, hc⟩ := hnb; exact blk_ne hs0 hc (by decide)
  obtain ⟨sb, hsb⟩ : ∃ sb, w.heap.size = sb := ⟨_, rfl⟩
  rw [hsb] at hs0 n1 n3 ⊢
  have HSB := Lib.hid hsb
  have HH := Lib.hid hH1
  have HM := Lib.hid hM1
  have HS0 := Lib.hid hs0
  have HB0 := Lib.hid hB0
  rw [hdir] at x0
  clear hle hnb hov hf hz hby hM hH hN hM1 hH1 hN1 hsb hs0 hB0 hdir
  go_region_held3 (fun w' => w'.cell? ⟨m, 2, none⟩ = some (.slice (some ⟨nb, 0, none⟩) l.length cap) ∧ w'.cell? ⟨hb, 0, none⟩ = some (.int .i64 (node : Int)) ∧ w'.cell? ⟨nb, node * 5, none⟩ = some (.bool false) ∧ w'.cell? ⟨nb, node * 5 + 1, none⟩ = some (.int .i64 l[node].mode) ∧ w'.cell? ⟨nb, node * 5 + 2, none⟩ = some (.slice vA l[node].bs.length vc) ∧ w'.cell? ⟨nb, node * 5 + 3, none⟩ = some (.int .i64 l[node].time) ∧ w'.cell? ⟨nb, node * 5 + 4, none⟩ = some (.string l[node].nm)) (first | go_keep | (go_split_ands; refine ⟨?_, ?_, ?_, ?_, ?_, ?_, ?_⟩ <;> assumption)) (fail)
  go_upto_region 2 with fail
  refine world_as (fun W' => Below W.heap.size W W' ∧ W'.heap[W.heap.size]? = some (.cells #[.bool false, .int .i64 l[node].mode, .slice vA l[node].bs.length vc, .int .i64 l[node].time, .string l[node].nm] tN (0, 0))) ⟨pw_below_drewN ((Below.refl W.heap.size W).alloc (Nat.le_refl _) (.cells #[.bool false, .int .i64 l[node].mode, .slice vA l[node].bs.length vc, .int .i64 l[node].time, .string l[node].nm] tN)) 1, alloc_new W _⟩ (fun W2 hW2 => ?_)
  obtain ⟨hB2, ht2⟩ := hW2
  have hs2 := (hB2.block _ (lt_of_heap HS0.out)).trans HS0.out
  have hH2 := HH.out.below hB2
  have hM2 := HM.out.below hB2
  obtain ⟨tb, htb⟩ : ∃ tb, W.heap.size = tb := ⟨_, rfl⟩
  rw [htb] at ht2 ⊢
  clear x0 x1 x2 x3 x4 m2 c0 n1 n3
  have t0 := (cell_of ht2 0).trans rfl
  have t4 := (cell_of ht2 4).trans rfl
  have s0 := (cell_of hs2 0).trans rfl
  have s6 := (cell_of hs2 6).trans rfl
  have s7 := (cell_of hs2 7).trans rfl
  have s9 := (cell_of hs2 9).trans rfl
  have c0 := (cell_of hH2 0).trans rfl
  have c1 := (cell_of hH2 1).trans rfl
  have c3 := (cell_of hH2 3).trans rfl
  have hBB := HB0.out.trans (hB2.mono HB0.out.size)
  have HBB := Lib.hid hBB
  have HM2 := Lib.hid hM2
  clear hB2 ht2 hs2 hH2 hM2 hBB htb
  have e18 : (op == 18) = false := beq_eq_false_iff_ne.2 (by unfold OpF at hop; omega)
  have e19 : (op == 19) = false := beq_eq_false_iff_ne.2 (by unfold OpF at hop; omega)
  have e20 : (op == 20) = false := beq_eq_false_iff_ne.2 (by unfold OpF at hop; omega)
  have e21 : (op == 21) = false := beq_eq_false_iff_ne.2 (by unfold OpF at hop; omega)
  have e22 : (op == 22) = false := beq_eq_false_iff_ne.2 (by unfold OpF at hop; omega)
  have e23 : (op == 23) = false := beq_eq_false_iff_ne.2 (by unfold OpF at hop; omega)
  have kdl : decide ((4096 : Int) < (dl : Int)) = false := by simp; omega
  have kn0 : decide (n < 0) = false := by simp; omega
  have kn1 : decide ((4096 : Int) < n) = false := by simp; omega
  have ko1 : decide ((1099511627776 : Int) < off) = true := by simp; omega
  clear hop gdl gn0 gn1 go1
  go_wp2_with fail
  go_ret
  exact ⟨false, rfl, HBB.out, fun h => by cases h⟩
set_option maxRecDepth 100000 in
set_option maxHeartbeats 2000000 in
theorem speaks_no_o0 (m hb B mb : Nat) (nv av dv : Value) (l : List SN) (h : SH) (s : Stp) (w : World) (hop : OpF s.op) (hM : MemIs w m nv av dv mb) (hH : SHIs w hb h) (hN : NodesIs w B dv l) (hi : h.node < l.length) (hdir : l[h.node].dir = false) (gdl : s.dl ≤ 4096) (gn0 : 0 ≤ s.n) (gn1 : s.n ≤ 4096) (go1 : s.off ≤ 1099511627776) (go0 : s.off < -1099511627776) :
    Calls Tryd.prog 51 #[.pointer (some ⟨m, 0, none⟩), .pointer (some ⟨hb, 0, none⟩), s.val] w (SpeaksPost w (stOf h l[h.node]) s) := by
  obtain ⟨op, name, other, flag, perm, hh, da, dl, dc, off, wh, n⟩ := s
  obtain ⟨node, at_, listed, cl, ro⟩ := h
  simp only [stOf] at hop hi hdir gdl gn0 gn1 go1 go0 ⊢
  skip
  unfold Stp.val
  simp only
  go_enter Tryd.func51, Tryd.ntmps51
  go_upto_region 1 with fail
  refine world_as (fun W => Below w.heap.size w W ∧ W.heap[w.heap.size]? = some (.cells #[.int .i64 op, .string name, .string other, .int .i64 flag, .int .i64 perm, .int .i64 hh, .slice da dl dc, .int .i64 off, .int .i64 wh, .int .i64 n] tStep (0, 0))) ⟨(Below.refl _ _).alloc (Nat.le_refl _) _, alloc_new _ _⟩ (fun W hW => ?_)
  obtain ⟨hB0, hs0⟩ := hW
  have hM1 := hM.below hB0
  have hH1 := hH.below hB0
  have hN1 := NodesIs.below hN hB0
  obtain ⟨nb, cap, v, rfl, hle, hnb, ⟨x0, x1, x2, x3, x4⟩, hov, hf, hz⟩ := NodesIs.at hN1 hi
  obtain ⟨vA, vc, rfl, hby⟩ := BytesIn.own hov hf
  have m2 := (cell_of hM1 2).trans rfl
  have c0 := (cell_of hH1 0).trans rfl
  have n1 : w.heap.size ≠ hb := blk_ne hs0 hH1 (by decide)
  have n3 : w.heap.size ≠ nb := by obtain ⟨c, hc⟩ := hnb; exact blk_ne hs0 hc (by decide)
  obtain ⟨sb, hsb⟩ : ∃ sb, w.heap.size = sb := ⟨_, rfl⟩
  rw [hsb] at hs0 n1 n3 ⊢
  have HSB := Lib.hid hsb
  have HH := Lib.hid hH1
  have HM := Lib.hid hM1
  have HS0 := Lib.hid hs0
  have HB0 := Lib.hid hB0
  rw [hdir] at x0
  clear hle hnb hov hf hz hby hM hH hN hM1 hH1 hN1 hsb hs0 hB0 hdir
  go_region_held3 (fun w' => w'.cell? ⟨m, 2, none⟩ = some (.slice (some ⟨nb, 0, none⟩) l.length cap) ∧ w'.cell? ⟨hb, 0, none⟩ = some (.int .i64 (node : Int)) ∧ w'.cell? ⟨nb, node * 5, none⟩ = some (.bool false) ∧ w'.cell? ⟨nb, node * 5 + 1, none⟩ = some (.int .i64 l[node].mode) ∧ w'.cell? ⟨nb, node * 5 + 2, none⟩ = some (.slice vA l[node].bs.length vc) ∧ w'.cell? ⟨nb, node * 5 + 3, none⟩ = some (.int .i64 l[node].time) ∧ w'.cell? ⟨nb, node * 5 + 4, none⟩ = some (.string l[node].nm)) (first | go_keep | (go_split_ands; refine ⟨?_, ?_, ?_, ?_, ?_, ?_, ?_⟩ <;> assumption)) (fail)
  go_upto_region 2 with fail
  refine world_as (fun W' => Below W.heap.size W W' ∧ W'.heap[W.heap.size]? = some (.cells #[.bool false, .int .i64 l[node].mode, .slice vA l[node].bs.length vc, .int .i64 l[node].time, .string l[node].nm] tN (0, 0))) ⟨pw_below_drewN ((Below.refl W.heap.size W).alloc (Nat.le_refl _) (.cells #[.bool false, .int .i64 l[node].mode, .slice vA l[node].bs.length vc, .int .i64 l[node].time, .string l[node].nm] tN)) 1, alloc_new W _⟩ (fun W2 hW2 => ?_)
  obtain ⟨hB2, ht2⟩ := hW2
  have hs2 := (hB2.block _ (lt_of_heap HS0.out)).trans HS0.out
  have hH2 := HH.out.below hB2
  have hM2 := HM.out.below hB2
  obtain ⟨tb, htb⟩ : ∃ tb, W.heap.size = tb := ⟨_, rfl⟩
  rw [htb] at ht2 ⊢
  clear x0 x1 x2 x3 x4 m2 c0 n1 n3
  have t0 := (cell_of ht2 0).trans rfl
  have t4 := (cell_of ht2 4).trans rfl
  have s0 := (cell_of hs2 0).trans rfl
  have s6 := (cell_of hs2 6).trans rfl
  have s7 := (cell_of hs2 7).trans rfl
  have s9 := (cell_of hs2 9).trans rfl
  have c0 := (cell_of hH2 0).trans rfl
  have c1 := (cell_of hH2 1).trans rfl
  have c3 := (cell_of hH2 3).trans rfl
  have hBB := HB0.out.trans (hB2.mono HB0.out.size)
  have HBB := Lib.hid hBB
  have HM2 := Lib.hid hM2
  clear hB2 ht2 hs2 hH2 hM2 hBB htb
  have e18 : (op == 18) = false := beq_eq_false_iff_ne.2 (by unfold OpF at hop; omega)
  have e19 : (op == 19) = false := beq_eq_false_iff_ne.2 (by unfold OpF at hop; omega)
  have e20 : (op == 20) = false := beq_eq_false_iff_ne.2 (by unfold OpF at hop; omega)
  have e21 : (op == 21) = false := beq_eq_false_iff_ne.2 (by unfold OpF at hop; omega)
  have e22 : (op == 22) = false := beq_eq_false_iff_ne.2 (by unfold OpF at hop; omega)
  have e23 : (op == 23) = false := beq_eq_false_iff_ne.2 (by unfold OpF at hop; omega)
  have kdl : decide ((4096 : Int) < (dl : Int)) = false := by simp; omega
  have kn0 : decide (n < 0) = false := by simp; omega
  have kn1 : decide ((4096 : Int) < n) = false := by simp; omega
  have ko1 : decide ((1099511627776 : Int) < off) = false := by simp; omega
  have ko0 : decide (off < (-1099511627776 : Int)) = true := by simp; omega
  clear hop gdl gn0 gn1 go1 go0
  go_wp2_with fail
  go_ret
  exact ⟨false, rfl, HBB.out, fun h => by cases h⟩
set_option maxRecDepth 100000 in
set_option maxHeartbeats 2000000 in
theorem speaks_op12a (m hb B mb : Nat) (nv av dv : Value) (l : List SN) (h : SH) (s : Stp) (w : World) (hop : s.op = 12) (hM : MemIs w m nv av dv mb) (hH : SHIs w hb h) (hN : NodesIs w B dv l) (hi : h.node < l.length) (hdir : l[h.node].dir = false) (gdl : s.dl ≤ 4096) (gn0 : 0 ≤ s.n) (gn1 : s.n ≤ 4096) (go1 : s.off ≤ 1099511627776) (go0 : -1099511627776 ≤ s.off) (hcl : h.cl = true) :
    Calls Tryd.prog 51 #[.pointer (some ⟨m, 0, none⟩), .pointer (some ⟨hb, 0, none⟩), s.val] w (SpeaksPost w (stOf h l[h.node]) s) := by
  obtain ⟨op, name, other, flag, perm, hh, da, dl, dc, off, wh, n⟩ := s
  obtain ⟨node, at_, listed, cl, ro⟩ := h
  simp only [stOf] at hop hi hdir gdl gn0 gn1 go1 go0 hcl ⊢
  subst hop hcl
  unfold Stp.val
  simp only
  go_enter Tryd.func51, Tryd.ntmps51
  go_upto_region 1 with fail
  refine world_as (fun W => Below w.heap.size w W ∧ W.heap[w.heap.size]? = some (.cells #[.int .i64 12, .string name, .string other, .int .i64 flag, .int .i64 perm, .int .i64 hh, .slice da dl dc, .int .i64 off, .int .i64 wh, .int .i64 n] tStep (0, 0))) ⟨(Below.refl _ _).alloc (Nat.le_refl _) _, alloc_new _ _⟩ (fun W hW => ?_)
  obtain ⟨hB0, hs0⟩ := hW
  have hM1 := hM.below hB0
  have hH1 := hH.below hB0
  have hN1 := NodesIs.below hN hB0
  obtain ⟨nb, cap, v, rfl, hle, hnb, ⟨x0, x1, x2, x3, x4⟩, hov, hf, hz⟩ := NodesIs.at hN1 hi
  obtain ⟨vA, vc, rfl, hby⟩ := BytesIn.own hov hf
  have m2 := (cell_of hM1 2).trans rfl
  have c0 := (cell_of hH1 0).trans rfl
  have n1 : w.heap.size ≠ hb := blk_ne hs0 hH1 (by decide)
  have n3 : w.heap.size ≠ nb := by obtain ⟨c, hc⟩ := hnb; exact blk_ne hs0 hc (by decide)
  obtain ⟨sb, hsb⟩ : ∃ sb, w.heap.size = sb := ⟨_, rfl⟩
  rw [hsb] at hs0 n1 n3 ⊢
  have HSB := Lib.hid hsb
  have HH := Lib.hid hH1
  have HM := Lib.hid hM1
  have HS0 := Lib.hid hs0
  have HB0 := Lib.hid hB0
  rw [hdir] at x0
  clear hle hnb hov hf hz hby hM hH hN hM1 hH1 hN1 hsb hs0 hB0 hdir
  go_region_held3 (fun w' => w'.cell? ⟨m, 2, none⟩ = some (.slice (some ⟨nb, 0, none⟩) l.length cap) ∧ w'.cell? ⟨hb, 0, none⟩ = some (.int .i64 (node : Int)) ∧ w'.cell? ⟨nb, node * 5, none⟩ = some (.bool false) ∧ w'.cell? ⟨nb, node * 5 + 1, none⟩ = some (.int .i64 l[node].mode) ∧ w'.cell? ⟨nb, node * 5 + 2, none⟩ = some (.slice vA l[node].bs.length vc) ∧ w'.cell? ⟨nb, node * 5 + 3, none⟩ = some (.int .i64 l[node].time) ∧ w'.cell? ⟨nb, node * 5 + 4, none⟩ = some (.string l[node].nm)) (first | go_keep | (go_split_ands; refine ⟨?_, ?_, ?_, ?_, ?_, ?_, ?_⟩ <;> assumption)) (fail)
  go_upto_region 2 with fail
  refine world_as (fun W' => Below W.heap.size W W' ∧ W'.heap[W.heap.size]? = some (.cells #[.bool false, .int .i64 l[node].mode, .slice vA l[node].bs.length vc, .int .i64 l[node].time, .string l[node].nm] tN (0, 0))) ⟨pw_below_drewN ((Below.refl W.heap.size W).alloc (Nat.le_refl _) (.cells #[.bool false, .int .i64 l[node].mode, .slice vA l[node].bs.length vc, .int .i64 l[node].time, .string l[node].nm] tN)) 1, alloc_new W _⟩ (fun W2 hW2 => ?_)
  obtain ⟨hB2, ht2⟩ := hW2
  have hs2 := (hB2.block _ (lt_of_heap HS0.out)).trans HS0.out
  have hH2 := HH.out.below hB2
  have hM2 := HM.out.below hB2
  obtain ⟨tb, htb⟩ : ∃ tb, W.heap.size = tb := ⟨_, rfl⟩
  rw [htb] at ht2 ⊢
  clear x0 x1 x2 x3 x4 m2 c0 n1 n3
  have t0 := (cell_of ht2 0).trans rfl
  have t4 := (cell_of ht2 4).trans rfl
  have s0 := (cell_of hs2 0).trans rfl
  have s6 := (cell_of hs2 6).trans rfl
  have s7 := (cell_of hs2 7).trans rfl
  have s9 := (cell_of hs2 9).trans rfl
  have c0 := (cell_of hH2 0).trans rfl
  have c1 := (cell_of hH2 1).trans rfl
  have c3 := (cell_of hH2 3).trans rfl
  have hBB := HB0.out.trans (hB2.mono HB0.out.size)
  have HBB := Lib.hid hBB
  have HM2 := Lib.hid hM2
  clear hB2 ht2 hs2 hH2 hM2 hBB htb
  have hG : 0 ≤ n ∧ n ≤ 4096 ∧ -1099511627776 ≤ off ∧ off ≤ 1099511627776 := ⟨gn0, gn1, go0, go1⟩
  have HG := Lib.hid hG
  have kdl : decide ((4096 : Int) < (dl : Int)) = false := by simp; omega
  have kn0 : decide (n < 0) = false := by simp; omega
  have kn1 : decide ((4096 : Int) < n) = false := by simp; omega
  have ko1 : decide ((1099511627776 : Int) < off) = false := by simp; omega
  have ko0 : decide (off < (-1099511627776 : Int)) = false := by simp; omega
  clear hG gdl gn0 gn1 go1 go0
  go_wp2_with fail
  go_ret
  refine ⟨true, rfl, HBB.out, fun hr => ⟨fun _ _ => HG.out, fun _ => .inl rfl, fun h => by simp only at h; omega, fun h => by simp only at h; omega, fun h => by simp only at h; omega, fun h => by simp only at h; omega⟩⟩
set_option maxRecDepth 100000 in
set_option maxHeartbeats 2000000 in
theorem speaks_op12b (m hb B mb : Nat) (nv av dv : Value) (l : List SN) (h : SH) (s : Stp) (w : World) (hop : s.op = 12) (hM : MemIs w m nv av dv mb) (hH : SHIs w hb h) (hN : NodesIs w B dv l) (hi : h.node < l.length) (hdir : l[h.node].dir = false) (gdl : s.dl ≤ 4096) (gn0 : 0 ≤ s.n) (gn1 : s.n ≤ 4096) (go1 : s.off ≤ 1099511627776) (go0 : -1099511627776 ≤ s.off) (hcl : h.cl = false) :
    Calls Tryd.prog 51 #[.pointer (some ⟨m, 0, none⟩), .pointer (some ⟨hb, 0, none⟩), s.val] w (SpeaksPost w (stOf h l[h.node]) s) := by
  obtain ⟨op, name, other, flag, perm, hh, da, dl, dc, off, wh, n⟩ := s
  obtain ⟨node, at_, listed, cl, ro⟩ := h
  simp only [stOf] at hop hi hdir gdl gn0 gn1 go1 go0 hcl ⊢
  subst hop hcl
  unfold Stp.val
  simp only
  go_enter Tryd.func51, Tryd.ntmps51
  go_upto_region 1 with fail
  refine world_as (fun W => Below w.heap.size w W ∧ W.heap[w.heap.size]? = some (.cells #[.int .i64 12, .string name, .string other, .int .i64 flag, .int .i64 perm, .int .i64 hh, .slice da dl dc, .int .i64 off, .int .i64 wh, .int .i64 n] tStep (0, 0))) ⟨(Below.refl _ _).alloc (Nat.le_refl _) _, alloc_new _ _⟩ (fun W hW => ?_)
  obtain ⟨hB0, hs0⟩ := hW
  have hM1 := hM.below hB0
  have hH1 := hH.below hB0
  have hN1 := NodesIs.below hN hB0
  obtain ⟨nb, cap, v, rfl, hle, hnb, ⟨x0, x1, x2, x3, x4⟩, hov, hf, hz⟩ := NodesIs.at hN1 hi
  obtain ⟨vA, vc, rfl, hby⟩ := BytesIn.own hov hf
  have m2 := (cell_of hM1 2).trans rfl
  have c0 := (cell_of hH1 0).trans rfl
  have n1 : w.heap.size ≠ hb := blk_ne hs0 hH1 (by decide)
  have n3 : w.heap.size ≠ nb := by obtain ⟨c, hc⟩ := hnb; exact blk_ne hs0 hc (by decide)
  obtain ⟨sb, hsb⟩ : ∃ sb, w.heap.size = sb := ⟨_, rfl⟩
  rw [hsb] at hs0 n1 n3 ⊢
  have HSB := Lib.hid hsb
  have HH := Lib.hid hH1
  have HM := Lib.hid hM1
  have HS0 := Lib.hid hs0
  have HB0 := Lib.hid hB0
  rw [hdir] at x0
  clear hle hnb hov hf hz hby hM hH hN hM1 hH1 hN1 hsb hs0 hB0 hdir
  go_region_held3 (fun w' => w'.cell? ⟨m, 2, none⟩ = some (.slice (some ⟨nb, 0, none⟩) l.length cap) ∧ w'.cell? ⟨hb, 0, none⟩ = some (.int .i64 (node : Int)) ∧ w'.cell? ⟨nb, node * 5, none⟩ = some (.bool false) ∧ w'.cell? ⟨nb, node * 5 + 1, none⟩ = some (.int .i64 l[node].mode) ∧ w'.cell? ⟨nb, node * 5 + 2, none⟩ = some (.slice vA l[node].bs.length vc) ∧ w'.cell? ⟨nb, node * 5 + 3, none⟩ = some (.int .i64 l[node].time) ∧ w'.cell? ⟨nb, node * 5 + 4, none⟩ = some (.string l[node].nm)) (first | go_keep | (go_split_ands; refine ⟨?_, ?_, ?_, ?_, ?_, ?_, ?_⟩ <;> assumption)) (fail)
  go_upto_region 2 with fail
  refine world_as (fun W' => Below W.heap.size W W' ∧ W'.heap[W.heap.size]? = some (.cells #[.bool false, .int .i64 l[node].mode, .slice vA l[node].bs.length vc, .int .i64 l[node].time, .string l[node].nm] tN (0, 0))) ⟨pw_below_drewN ((Below.refl W.heap.size W).alloc (Nat.le_refl _) (.cells #[.bool false, .int .i64 l[node].mode, .slice vA l[node].bs.length vc, .int .i64 l[node].time, .string l[node].nm] tN)) 1, alloc_new W _⟩ (fun W2 hW2 => ?_)
  obtain ⟨hB2, ht2⟩ := hW2
  have hs2 := (hB2.block _ (lt_of_heap HS0.out)).trans HS0.out
  have hH2 := HH.out.below hB2
  have hM2 := HM.out.below hB2
  obtain ⟨tb, htb⟩ : ∃ tb, W.heap.size = tb := ⟨_, rfl⟩
  rw [htb] at ht2 ⊢
  clear x0 x1 x2 x3 x4 m2 c0 n1 n3
  have t0 := (cell_of ht2 0).trans rfl
  have t4 := (cell_of ht2 4).trans rfl
  have s0 := (cell_of hs2 0).trans rfl
  have s6 := (cell_of hs2 6).trans rfl
  have s7 := (cell_of hs2 7).trans rfl
  have s9 := (cell_of hs2 9).trans rfl
  have c0 := (cell_of hH2 0).trans rfl
  have c1 := (cell_of hH2 1).trans rfl
  have c3 := (cell_of hH2 3).trans rfl
  have hBB := HB0.out.trans (hB2.mono HB0.out.size)
  have HBB := Lib.hid hBB
  have HM2 := Lib.hid hM2
  clear hB2 ht2 hs2 hH2 hM2 hBB htb
  have hG : 0 ≤ n ∧ n ≤ 4096 ∧ -1099511627776 ≤ off ∧ off ≤ 1099511627776 := ⟨gn0, gn1, go0, go1⟩
  have HG := Lib.hid hG
  have kdl : decide ((4096 : Int) < (dl : Int)) = false := by simp; omega
  have kn0 : decide (n < 0) = false := by simp; omega
  have kn1 : decide ((4096 : Int) < n) = false := by simp; omega
  have ko1 : decide ((1099511627776 : Int) < off) = false := by simp; omega
  have ko0 : decide (off < (-1099511627776 : Int)) = false := by simp; omega
  clear hG gdl gn0 gn1 go1 go0
  go_wp2_with fail
  go_ret
  refine ⟨_, rfl, HBB.out, fun hr => ⟨fun _ _ => HG.out, fun _ => .inr (by simpa using hr), fun h => by simp only at h; omega, fun h => by simp only at h; omega, fun h => by simp only at h; omega, fun h => by simp only at h; omega⟩⟩
set_option maxRecDepth 100000 in
set_option maxHeartbeats 2000000 in
theorem speaks_op14a (m hb B mb : Nat) (nv av dv : Value) (l : List SN) (h : SH) (s : Stp) (w : World) (hop : s.op = 14) (hM : MemIs w m nv av dv mb) (hH : SHIs w hb h) (hN : NodesIs w B dv l) (hi : h.node < l.length) (hdir : l[h.node].dir = false) (gdl : s.dl ≤ 4096) (gn0 : 0 ≤ s.n) (gn1 : s.n ≤ 4096) (go1 : s.off ≤ 1099511627776) (go0 : -1099511627776 ≤ s.off) (hat : 0 ≤ h.at_) :
    Calls Tryd.prog 51 #[.pointer (some ⟨m, 0, none⟩), .pointer (some ⟨hb, 0, none⟩), s.val] w (SpeaksPost w (stOf h l[h.node]) s) := by
  obtain ⟨op, name, other, flag, perm, hh, da, dl, dc, off, wh, n⟩ := s
  obtain ⟨node, at_, listed, cl, ro⟩ := h
  simp only [stOf] at hop hi hdir gdl gn0 gn1 go1 go0 hat ⊢
  subst hop
  unfold Stp.val
  simp only
  go_enter Tryd.func51, Tryd.ntmps51
  go_upto_region 1 with fail
  refine world_as (fun W => Below w.heap.size w W ∧ W.heap[w.heap.size]? = some (.cells #[.int .i64 14, .string name, .string other, .int .i64 flag, .int .i64 perm, .int .i64 hh, .slice da dl dc, .int .i64 off, .int .i64 wh, .int .i64 n] tStep (0, 0))) ⟨(Below.refl _ _).alloc (Nat.le_refl _) _, alloc_new _ _⟩ (fun W hW => ?_)
  obtain ⟨hB0, hs0⟩ := hW
  have hM1 := hM.below hB0
  have hH1 := hH.below hB0
  have hN1 := NodesIs.below hN hB0
  obtain ⟨nb, cap, v, rfl, hle, hnb, ⟨x0, x1, x2, x3, x4⟩, hov, hf, hz⟩ := NodesIs.at hN1 hi
  obtain ⟨vA, vc, rfl, hby⟩ := BytesIn.own hov hf
  have m2 := (cell_of hM1 2).trans rfl
  have c0 := (cell_of hH1 0).trans rfl
  have n1 : w.heap.size ≠ hb := blk_ne hs0 hH1 (by decide)
  have n3 : w.heap.size ≠ nb := by obtain ⟨c, hc⟩ := hnb; exact blk_ne hs0 hc (by decide)
  obtain ⟨sb, hsb⟩ : ∃ sb, w.heap.size = sb := ⟨_, rfl⟩
  rw [hsb] at hs0 n1 n3 ⊢
  have HSB := Lib.hid hsb
  have HH := Lib.hid hH1
  have HM := Lib.hid hM1
  have HS0 := Lib.hid hs0
  have HB0 := Lib.hid hB0
  rw [hdir] at x0
  clear hle hnb hov hf hz hby hM hH hN hM1 hH1 hN1 hsb hs0 hB0 hdir
  go_region_held3 (fun w' => w'.cell? ⟨m, 2, none⟩ = some (.slice (some ⟨nb, 0, none⟩) l.length cap) ∧ w'.cell? ⟨hb, 0, none⟩ = some (.int .i64 (node : Int)) ∧ w'.cell? ⟨nb, node * 5, none⟩ = some (.bool false) ∧ w'.cell? ⟨nb, node * 5 + 1, none⟩ = some (.int .i64 l[node].mode) ∧ w'.cell? ⟨nb, node * 5 + 2, none⟩ = some (.slice vA l[node].bs.length vc) ∧ w'.cell? ⟨nb, node * 5 + 3, none⟩ = some (.int .i64 l[node].time) ∧ w'.cell? ⟨nb, node * 5 + 4, none⟩ = some (.string l[node].nm)) (first | go_keep | (go_split_ands; refine ⟨?_, ?_, ?_, ?_, ?_, ?_, ?_⟩ <;> assumption)) (fail)
  go_upto_region 2 with fail
  refine world_as (fun W' => Below W.heap.size W W' ∧ W'.heap[W.heap.size]? = some (.cells #[.bool false, .int .i64 l[node].mode, .slice vA l[node].bs.length vc, .int .i64 l[node].time, .string l[node].nm] tN (0, 0))) ⟨pw_below_drewN ((Below.refl W.heap.size W).alloc (Nat.le_refl _) (.cells #[.bool false, .int .i64 l[node].mode, .slice vA l[node].bs.length vc, .int .i64 l[node].time, .string l[node].nm] tN)) 1, alloc_new W _⟩ (fun W2 hW2 => ?_)
  obtain ⟨hB2, ht2⟩ := hW2
  have hs2 := (hB2.block _ (lt_of_heap HS0.out)).trans HS0.out
  have hH2 := HH.out.below hB2
  have hM2 := HM.out.below hB2
  obtain ⟨tb, htb⟩ : ∃ tb, W.heap.size = tb := ⟨_, rfl⟩
  rw [htb] at ht2 ⊢
  clear x0 x1 x2 x3 x4 m2 c0 n1 n3
  have t0 := (cell_of ht2 0).trans rfl
  have t4 := (cell_of ht2 4).trans rfl
  have s0 := (cell_of hs2 0).trans rfl
  have s6 := (cell_of hs2 6).trans rfl
  have s7 := (cell_of hs2 7).trans rfl
  have s9 := (cell_of hs2 9).trans rfl
  have c0 := (cell_of hH2 0).trans rfl
  have c1 := (cell_of hH2 1).trans rfl
  have c3 := (cell_of hH2 3).trans rfl
  have hBB := HB0.out.trans (hB2.mono HB0.out.size)
  have HBB := Lib.hid hBB
  have HM2 := Lib.hid hM2
  clear hB2 ht2 hs2 hH2 hM2 hBB htb
  have hG : 0 ≤ n ∧ n ≤ 4096 ∧ -1099511627776 ≤ off ∧ off ≤ 1099511627776 := ⟨gn0, gn1, go0, go1⟩
  have HG := Lib.hid hG
  have kdl : decide ((4096 : Int) < (dl : Int)) = false := by simp; omega
  have kn0 : decide (n < 0) = false := by simp; omega
  have kn1 : decide ((4096 : Int) < n) = false := by simp; omega
  have ko1 : decide ((1099511627776 : Int) < off) = false := by simp; omega
  have ko0 : decide (off < (-1099511627776 : Int)) = false := by simp; omega
  have ka : decide (0 ≤ at_) = true := decide_eq_true hat
  have HAT := Lib.hid hat
  clear hat
  clear hG gdl gn0 gn1 go1 go0
  go_wp2_with fail
  go_ret
  refine ⟨_, rfl, HBB.out, fun hr => ⟨fun _ _ => HG.out, fun h => by simp only at h; omega, fun _ => ⟨HAT.out, (by simpa using hr)⟩, fun h => by simp only at h; omega, fun h => by simp only at h; omega, fun h => by simp only at h; omega⟩⟩
set_option maxRecDepth 100000 in
set_option maxHeartbeats 2000000 in
theorem speaks_op14b (m hb B mb : Nat) (nv av dv : Value) (l : List SN) (h : SH) (s : Stp) (w : World) (hop : s.op = 14) (hM : MemIs w m nv av dv mb) (hH : SHIs w hb h) (hN : NodesIs w B dv l) (hi : h.node < l.length) (hdir : l[h.node].dir = false) (gdl : s.dl ≤ 4096) (gn0 : 0 ≤ s.n) (gn1 : s.n ≤ 4096) (go1 : s.off ≤ 1099511627776) (go0 : -1099511627776 ≤ s.off) (hat : h.at_ < 0) :
    Calls Tryd.prog 51 #[.pointer (some ⟨m, 0, none⟩), .pointer (some ⟨hb, 0, none⟩), s.val] w (SpeaksPost w (stOf h l[h.node]) s) := by
  obtain ⟨op, name, other, flag, perm, hh, da, dl, dc, off, wh, n⟩ := s
  obtain ⟨node, at_, listed, cl, ro⟩ := h
  simp only [stOf] at hop hi hdir gdl gn0 gn1 go1 go0 hat ⊢
  subst hop
  unfold Stp.val
  simp only
  go_enter Tryd.func51, Tryd.ntmps51
  go_upto_region 1 with fail
  refine world_as (fun W => Below w.heap.size w W ∧ W.heap[w.heap.size]? = some (.cells #[.int .i64 14, .string name, .string other, .int .i64 flag, .int .i64 perm, .int .i64 hh, .slice da dl dc, .int .i64 off, .int .i64 wh, .int .i64 n] tStep (0, 0))) ⟨(Below.refl _ _).alloc (Nat.le_refl _) _, alloc_new _ _⟩ (fun W hW => ?_)
  obtain ⟨hB0, hs0⟩ := hW
  have hM1 := hM.below hB0
  have hH1 := hH.below hB0
  have hN1 := NodesIs.below hN hB0
  obtain ⟨nb, cap, v, rfl, hle, hnb, ⟨x0, x1, x2, x3, x4⟩, hov, hf, hz⟩ := NodesIs.at hN1 hi
  obtain ⟨vA, vc, rfl, hby⟩ := BytesIn.own hov hf
  have m2 := (cell_of hM1 2).trans rfl
  have c0 := (cell_of hH1 0).trans rfl
  have n1 : w.heap.size ≠ hb := blk_ne hs0 hH1 (by decide)
  have n3 : w.heap.size ≠ nb := by obtain ⟨c, hc⟩ := hnb; exact blk_ne hs0 hc (by decide)
  obtain ⟨sb, hsb⟩ : ∃ sb, w.heap.size = sb := ⟨_, rfl⟩
  rw [hsb] at hs0 n1 n3 ⊢
  have HSB := Lib.hid hsb
  have HH := Lib.hid hH1
  have HM := Lib.hid hM1
  have HS0 := Lib.hid hs0
  have HB0 := Lib.hid hB0
  rw [hdir] at x0
  clear hle hnb hov hf hz hby hM hH hN hM1 hH1 hN1 hsb hs0 hB0 hdir
  go_region_held3 (fun w' => w'.cell? ⟨m, 2, none⟩ = some (.slice (some ⟨nb, 0, none⟩) l.length cap) ∧ w'.cell? ⟨hb, 0, none⟩ = some (.int .i64 (node : Int)) ∧ w'.cell? ⟨nb, node * 5, none⟩ = some (.bool false) ∧ w'.cell? ⟨nb, node * 5 + 1, none⟩ = some (.int .i64 l[node].mode) ∧ w'.cell? ⟨nb, node * 5 + 2, none⟩ = some (.slice vA l[node].bs.length vc) ∧ w'.cell? ⟨nb, node * 5 + 3, none⟩ = some (.int .i64 l[node].time) ∧ w'.cell? ⟨nb, node * 5 + 4, none⟩ = some (.string l[node].nm)) (first | go_keep | (go_split_ands; refine ⟨?_, ?_, ?_, ?_, ?_, ?_, ?_⟩ <;> assumption)) (fail)
  go_upto_region 2 with fail
  refine world_as (fun W' => Below W.heap.size W W' ∧ W'.heap[W.heap.size]? = some (.cells #[.bool false, .int .i64 l[node].mode, .slice vA l[node].bs.length vc, .int .i64 l[node].time, .string l[node].nm] tN (0, 0))) ⟨pw_below_drewN ((Below.refl W.heap.size W).alloc (Nat.le_refl _) (.cells #[.bool false, .int .i64 l[node].mode, .slice vA l[node].bs.length vc, .int .i64 l[node].time, .string l[node].nm] tN)) 1, alloc_new W _⟩ (fun W2 hW2 => ?_)
  obtain ⟨hB2, ht2⟩ := hW2
  have hs2 := (hB2.block _ (lt_of_heap HS0.out)).trans HS0.out
  have hH2 := HH.out.below hB2
  have hM2 := HM.out.below hB2
  obtain ⟨tb, htb⟩ : ∃ tb, W.heap.size = tb := ⟨_, rfl⟩
  rw [htb] at ht2 ⊢
  clear x0 x1 x2 x3 x4 m2 c0 n1 n3
  have t0 := (cell_of ht2 0).trans rfl
  have t4 := (cell_of ht2 4).trans rfl
  have s0 := (cell_of hs2 0).trans rfl
  have s6 := (cell_of hs2 6).trans rfl
  have s7 := (cell_of hs2 7).trans rfl
  have s9 := (cell_of hs2 9).trans rfl
  have c0 := (cell_of hH2 0).trans rfl
  have c1 := (cell_of hH2 1).trans rfl
  have c3 := (cell_of hH2 3).trans rfl
  have hBB := HB0.out.trans (hB2.mono HB0.out.size)
  have HBB := Lib.hid hBB
  have HM2 := Lib.hid hM2
  clear hB2 ht2 hs2 hH2 hM2 hBB htb
  have hG : 0 ≤ n ∧ n ≤ 4096 ∧ -1099511627776 ≤ off ∧ off ≤ 1099511627776 := ⟨gn0, gn1, go0, go1⟩
  have HG := Lib.hid hG
  have kdl : decide ((4096 : Int) < (dl : Int)) = false := by simp; omega
  have kn0 : decide (n < 0) = false := by simp; omega
  have kn1 : decide ((4096 : Int) < n) = false := by simp; omega
  have ko1 : decide ((1099511627776 : Int) < off) = false := by simp; omega
  have ko0 : decide (off < (-1099511627776 : Int)) = false := by simp; omega
  have ka : decide (0 ≤ at_) = false := by simp; omega
  clear hat
  clear hG gdl gn0 gn1 go1 go0
  go_wp2_with fail
  go_ret
  exact ⟨false, rfl, HBB.out, fun h => by cases h⟩
set_option maxRecDepth 100000 in
set_option maxHeartbeats 2000000 in
theorem speaks_op15a (m hb B mb : Nat) (nv av dv : Value) (l : List SN) (h : SH) (s : Stp) (w : World) (hop : s.op = 15) (hM : MemIs w m nv av dv mb) (hH : SHIs w hb h) (hN : NodesIs w B dv l) (hi : h.node < l.length) (hdir : l[h.node].dir = false) (gdl : s.dl ≤ 4096) (gn0 : 0 ≤ s.n) (gn1 : s.n ≤ 4096) (go1 : s.off ≤ 1099511627776) (go0 : -1099511627776 ≤ s.off) (hat : 0 ≤ s.off) :
    Calls Tryd.prog 51 #[.pointer (some ⟨m, 0, none⟩), .pointer (some ⟨hb, 0, none⟩), s.val] w (SpeaksPost w (stOf h l[h.node]) s) := by
  obtain ⟨op, name, other, flag, perm, hh, da, dl, dc, off, wh, n⟩ := s
  obtain ⟨node, at_, listed, cl, ro⟩ := h
  simp only [stOf] at hop hi hdir gdl gn0 gn1 go1 go0 hat ⊢
  subst hop
  unfold Stp.val
  simp only
  go_enter Tryd.func51, Tryd.ntmps51
  go_upto_region 1 with fail
  refine world_as (fun W => Below w.heap.size w W ∧ W.heap[w.heap.size]? = some (.cells #[.int .i64 15, .string name, .string other, .int .i64 flag, .int .i64 perm, .int .i64 hh, .slice da dl dc, .int .i64 off, .int .i64 wh, .int .i64 n] tStep (0, 0))) ⟨(Below.refl _ _).alloc (Nat.le_refl _) _, alloc_new _ _⟩ (fun W hW => ?_)
  obtain ⟨hB0, hs0⟩ := hW
  have hM1 := hM.below hB0
  have hH1 := hH.below hB0
  have hN1 := NodesIs.below hN hB0
  obtain ⟨nb, cap, v, rfl, hle, hnb, ⟨x0, x1, x2, x3, x4⟩, hov, hf, hz⟩ := NodesIs.at hN1 hi
  obtain ⟨vA, vc, rfl, hby⟩ := BytesIn.own hov hf
  have m2 := (cell_of hM1 2).trans rfl
  have c0 := (cell_of hH1 0).trans rfl
  have n1 : w.heap.size ≠ hb := blk_ne hs0 hH1 (by decide)
  have n3 : w.heap.size ≠ nb := by obtain ⟨c, hc⟩ := hnb; exact blk_ne hs0 hc (by decide)
  obtain ⟨sb, hsb⟩ : ∃ sb, w.heap.size = sb := ⟨_, rfl⟩
  rw [hsb] at hs0 n1 n3 ⊢
  have HSB := Lib.hid hsb
  have HH := Lib.hid hH1
  have HM := Lib.hid hM1
  have HS0 := Lib.hid hs0
  have HB0 := Lib.hid hB0
  rw [hdir] at x0
  clear hle hnb hov hf hz hby hM hH hN hM1 hH1 hN1 hsb hs0 hB0 hdir
  go_region_held3 (fun w' => w'.cell? ⟨m, 2, none⟩ = some (.slice (some ⟨nb, 0, none⟩) l.length cap) ∧ w'.cell? ⟨hb, 0, none⟩ = some (.int .i64 (node : Int)) ∧ w'.cell? ⟨nb, node * 5, none⟩ = some (.bool false) ∧ w'.cell? ⟨nb, node * 5 + 1, none⟩ = some (.int .i64 l[node].mode) ∧ w'.cell? ⟨nb, node * 5 + 2, none⟩ = some (.slice vA l[node].bs.length vc) ∧ w'.cell? ⟨nb, node * 5 + 3, none⟩ = some (.int .i64 l[node].time) ∧ w'.cell? ⟨nb, node * 5 + 4, none⟩ = some (.string l[node].nm)) (first | go_keep | (go_split_ands; refine ⟨?_, ?_, ?_, ?_, ?_, ?_, ?_⟩ <;> assumption)) (fail)
  go_upto_region 2 with fail
  refine world_as (fun W' => Below W.heap.size W W' ∧ W'.heap[W.heap.size]? = some (.cells #[.bool false, .int .i64 l[node].mode, .slice vA l[node].bs.length vc, .int .i64 l[node].time, .string l[node].nm] tN (0, 0))) ⟨pw_below_drewN ((Below.refl W.heap.size W).alloc (Nat.le_refl _) (.cells #[.bool false, .int .i64 l[node].mode, .slice vA l[node].bs.length vc, .int .i64 l[node].time, .string l[node].nm] tN)) 1, alloc_new W _⟩ (fun W2 hW2 => ?_)
  obtain ⟨hB2, ht2⟩ := hW2
  have hs2 := (hB2.block _ (lt_of_heap HS0.out)).trans HS0.out
  have hH2 := HH.out.below hB2
  have hM2 := HM.out.below hB2
  obtain ⟨tb, htb⟩ : ∃ tb, W.heap.size = tb := ⟨_, rfl⟩
  rw [htb] at ht2 ⊢
  clear x0 x1 x2 x3 x4 m2 c0 n1 n3
  have t0 := (cell_of ht2 0).trans rfl
  have t4 := (cell_of ht2 4).trans rfl
  have s0 := (cell_of hs2 0).trans rfl
  have s6 := (cell_of hs2 6).trans rfl
  have s7 := (cell_of hs2 7).trans rfl
  have s9 := (cell_of hs2 9).trans rfl
  have c0 := (cell_of hH2 0).trans rfl
  have c1 := (cell_of hH2 1).trans rfl
  have c3 := (cell_of hH2 3).trans rfl
  have hBB := HB0.out.trans (hB2.mono HB0.out.size)
  have HBB := Lib.hid hBB
  have HM2 := Lib.hid hM2
  clear hB2 ht2 hs2 hH2 hM2 hBB htb
  have hG : 0 ≤ n ∧ n ≤ 4096 ∧ -1099511627776 ≤ off ∧ off ≤ 1099511627776 := ⟨gn0, gn1, go0, go1⟩
  have HG := Lib.hid hG
  have kdl : decide ((4096 : Int) < (dl : Int)) = false := by simp; omega
  have kn0 : decide (n < 0) = false := by simp; omega
  have kn1 : decide ((4096 : Int) < n) = false := by simp; omega
  have ko1 : decide ((1099511627776 : Int) < off) = false := by simp; omega
  have ko0 : decide (off < (-1099511627776 : Int)) = false := by simp; omega
  have ka : decide (0 ≤ off) = true := decide_eq_true hat
  have HAT := Lib.hid hat
  clear hat
  clear hG gdl gn0 gn1 go1 go0
  go_wp2_with fail
  go_ret
  refine ⟨_, rfl, HBB.out, fun hr => ⟨fun _ _ => HG.out, fun h => by simp only at h; omega, fun h => by simp only at h; omega, fun _ => ⟨HAT.out, (by simpa using hr)⟩, fun h => by simp only at h; omega, fun h => by simp only at h; omega⟩⟩
set_option maxRecDepth 100000 in
set_option maxHeartbeats 2000000 in
theorem speaks_op15b (m hb B mb : Nat) (nv av dv : Value) (l : List SN) (h : SH) (s : Stp) (w : World) (hop : s.op = 15) (hM : MemIs w m nv av dv mb) (hH : SHIs w hb h) (hN : NodesIs w B dv l) (hi : h.node < l.length) (hdir : l[h.node].dir = false) (gdl : s.dl ≤ 4096) (gn0 : 0 ≤ s.n) (gn1 : s.n ≤ 4096) (go1 : s.off ≤ 1099511627776) (go0 : -1099511627776 ≤ s.off) (hat : s.off < 0) :
    Calls Tryd.prog 51 #[.pointer (some ⟨m, 0, none⟩), .pointer (some ⟨hb, 0, none⟩), s.val] w (SpeaksPost w (stOf h l[h.node]) s) := by
  obtain ⟨op, name, other, flag, perm, hh, da, dl, dc, off, wh, n⟩ := s
  obtain ⟨node, at_, listed, cl, ro⟩ := h
  simp only [stOf] at hop hi hdir gdl gn0 gn1 go1 go0 hat ⊢
  subst hop
  unfold Stp.val
  simp only
  go_enter Tryd.func51, Tryd.ntmps51
  go_upto_region 1 with fail
  refine world_as (fun W => Below w.heap.size w W ∧ W.heap[w.heap.size]? = some (.cells #[.int .i64 15, .string name, .string other, .int .i64 flag, .int .i64 perm, .int .i64 hh, .slice da dl dc, .int .i64 off, .int .i64 wh, .int .i64 n] tStep (0, 0))) ⟨(Below.refl _ _).alloc (Nat.le_refl _) _, alloc_new _ _⟩ (fun W hW => ?_)
  obtain ⟨hB0, hs0⟩ := hW
  have hM1 := hM.below hB0
  have hH1 := hH.below hB0
  have hN1 := NodesIs.below hN hB0
  obtain ⟨nb, cap, v, rfl, hle, hnb, ⟨x0, x1, x2, x3, x4⟩, hov, hf, hz⟩ := NodesIs.at hN1 hi
  obtain ⟨vA, vc, rfl, hby⟩ := BytesIn.own hov hf
  have m2 := (cell_of hM1 2).trans rfl
  have c0 := (cell_of hH1 0).trans rfl
  have n1 : w.heap.size ≠ hb := blk_ne hs0 hH1 (by decide)
  have n3 : w.heap.size ≠ nb := by obtain ⟨c, hc⟩ := hnb; exact blk_ne hs0 hc (by decide)
  obtain ⟨sb, hsb⟩ : ∃ sb, w.heap.size = sb := ⟨_, rfl⟩
  rw [hsb] at hs0 n1 n3 ⊢
  have HSB := Lib.hid hsb
  have HH := Lib.hid hH1
  have HM := Lib.hid hM1
  have HS0 := Lib.hid hs0
  have HB0 := Lib.hid hB0
  rw [hdir] at x0
  clear hle hnb hov hf hz hby hM hH hN hM1 hH1 hN1 hsb hs0 hB0 hdir
  go_region_held3 (fun w' => w'.cell? ⟨m, 2, none⟩ = some (.slice (some ⟨nb, 0, none⟩) l.length cap) ∧ w'.cell? ⟨hb, 0, none⟩ = some (.int .i64 (node : Int)) ∧ w'.cell? ⟨nb, node * 5, none⟩ = some (.bool false) ∧ w'.cell? ⟨nb, node * 5 + 1, none⟩ = some (.int .i64 l[node].mode) ∧ w'.cell? ⟨nb, node * 5 + 2, none⟩ = some (.slice vA l[node].bs.length vc) ∧ w'.cell? ⟨nb, node * 5 + 3, none⟩ = some (.int .i64 l[node].time) ∧ w'.cell? ⟨nb, node * 5 + 4, none⟩ = some (.string l[node].nm)) (first | go_keep | (go_split_ands; refine ⟨?_, ?_, ?_, ?_, ?_, ?_, ?_⟩ <;> assumption)) (fail)
  go_upto_region 2 with fail
  refine world_as (fun W' => Below W.heap.size W W' ∧ W'.heap[W.heap.size]? = some (.cells #[.bool false, .int .i64 l[node].mode, .slice vA l[node].bs.length vc, .int .i64 l[node].time, .string l[node].nm] tN (0, 0))) ⟨pw_below_drewN ((Below.refl W.heap.size W).alloc (Nat.le_refl _) (.cells #[.bool false, .int .i64 l[node].mode, .slice vA l[node].bs.length vc, .int .i64 l[node].time, .string l[node].nm] tN)) 1, alloc_new W _⟩ (fun W2 hW2 => ?_)
  obtain ⟨hB2, ht2⟩ := hW2
  have hs2 := (hB2.block _ (lt_of_heap HS0.out)).trans HS0.out
  have hH2 := HH.out.below hB2
  have hM2 := HM.out.below hB2
  obtain ⟨tb, htb⟩ : ∃ tb, W.heap.size = tb := ⟨_, rfl⟩
  rw [htb] at ht2 ⊢
  clear x0 x1 x2 x3 x4 m2 c0 n1 n3
  have t0 := (cell_of ht2 0).trans rfl
  have t4 := (cell_of ht2 4).trans rfl
  have s0 := (cell_of hs2 0).trans rfl
  have s6 := (cell_of hs2 6).trans rfl
  have s7 := (cell_of hs2 7).trans rfl
  have s9 := (cell_of hs2 9).trans rfl
  have c0 := (cell_of hH2 0).trans rfl
  have c1 := (cell_of hH2 1).trans rfl
  have c3 := (cell_of hH2 3).trans rfl
  have hBB := HB0.out.trans (hB2.mono HB0.out.size)
  have HBB := Lib.hid hBB
  have HM2 := Lib.hid hM2
  clear hB2 ht2 hs2 hH2 hM2 hBB htb
  have hG : 0 ≤ n ∧ n ≤ 4096 ∧ -1099511627776 ≤ off ∧ off ≤ 1099511627776 := ⟨gn0, gn1, go0, go1⟩
  have HG := Lib.hid hG
  have kdl : decide ((4096 : Int) < (dl : Int)) = false := by simp; omega
  have kn0 : decide (n < 0) = false := by simp; omega
  have kn1 : decide ((4096 : Int) < n) = false := by simp; omega
  have ko1 : decide ((1099511627776 : Int) < off) = false := by simp; omega
  have ko0 : decide (off < (-1099511627776 : Int)) = false := by simp; omega
  have ka : decide (0 ≤ off) = false := by simp; omega
  clear hat
  clear hG gdl gn0 gn1 go1 go0
  go_wp2_with fail
  go_ret
  exact ⟨false, rfl, HBB.out, fun h => by cases h⟩
set_option maxRecDepth 100000 in
set_option maxHeartbeats 2000000 in
theorem speaks_op17 (m hb B mb : Nat) (nv av dv : Value) (l : List SN) (h : SH) (s : Stp) (w : World) (hop : s.op = 17) (hM : MemIs w m nv av dv mb) (hH : SHIs w hb h) (hN : NodesIs w B dv l) (hi : h.node < l.length) (hdir : l[h.node].dir = false) (gdl : s.dl ≤ 4096) (gn0 : 0 ≤ s.n) (gn1 : s.n ≤ 4096) (go1 : s.off ≤ 1099511627776) (go0 : -1099511627776 ≤ s.off) :
    Calls Tryd.prog 51 #[.pointer (some ⟨m, 0, none⟩), .pointer (some ⟨hb, 0, none⟩), s.val] w (SpeaksPost w (stOf h l[h.node]) s) := by
  obtain ⟨op, name, other, flag, perm, hh, da, dl, dc, off, wh, n⟩ := s
  obtain ⟨node, at_, listed, cl, ro⟩ := h
  simp only [stOf] at hop hi hdir gdl gn0 gn1 go1 go0 ⊢
  subst hop
  unfold Stp.val
  simp only
  go_enter Tryd.func51, Tryd.ntmps51
  go_upto_region 1 with fail
  refine world_as (fun W => Below w.heap.size w W ∧ W.heap[w.heap.size]? = some (.cells #[.int .i64 17, .string name, .string other, .int .i64 flag, .int .i64 perm, .int .i64 hh, .slice da dl dc, .int .i64 off, .int .i64 wh, .int .i64 n] tStep (0, 0))) ⟨(Below.refl _ _).alloc (Nat.le_refl _) _, alloc_new _ _⟩ (fun W hW => ?_)
  obtain ⟨hB0, hs0⟩ := hW
  have hM1 := hM.below hB0
  have hH1 := hH.below hB0
  have hN1 := NodesIs.below hN hB0
  obtain ⟨nb, cap, v, rfl, hle, hnb, ⟨x0, x1, x2, x3, x4⟩, hov, hf, hz⟩ := NodesIs.at hN1 hi
  obtain ⟨vA, vc, rfl, hby⟩ := BytesIn.own hov hf
  have m2 := (cell_of hM1 2).trans rfl
  have c0 := (cell_of hH1 0).trans rfl
  have n1 : w.heap.size ≠ hb := blk_ne hs0 hH1 (by decide)
  have n3 : w.heap.size ≠ nb := by obtain ⟨c, hc⟩ := hnb; exact blk_ne hs0 hc (by decide)
  obtain ⟨sb, hsb⟩ : ∃ sb, w.heap.size = sb := ⟨_, rfl⟩
  rw [hsb] at hs0 n1 n3 ⊢
  have HSB := Lib.hid hsb
  have HH := Lib.hid hH1
  have HM := Lib.hid hM1
  have HS0 := Lib.hid hs0
  have HB0 := Lib.hid hB0
  rw [hdir] at x0
  clear hle hnb hov hf hz hby hM hH hN hM1 hH1 hN1 hsb hs0 hB0 hdir
  go_region_held3 (fun w' => w'.cell? ⟨m, 2, none⟩ = some (.slice (some ⟨nb, 0, none⟩) l.length cap) ∧ w'.cell? ⟨hb, 0, none⟩ = some (.int .i64 (node : Int)) ∧ w'.cell? ⟨nb, node * 5, none⟩ = some (.bool false) ∧ w'.cell? ⟨nb, node * 5 + 1, none⟩ = some (.int .i64 l[node].mode) ∧ w'.cell? ⟨nb, node * 5 + 2, none⟩ = some (.slice vA l[node].bs.length vc) ∧ w'.cell? ⟨nb, node * 5 + 3, none⟩ = some (.int .i64 l[node].time) ∧ w'.cell? ⟨nb, node * 5 + 4, none⟩ = some (.string l[node].nm)) (first | go_keep | (go_split_ands; refine ⟨?_, ?_, ?_, ?_, ?_, ?_, ?_⟩ <;> assumption)) (fail)
  go_upto_region 2 with fail
  refine world_as (fun W' => Below W.heap.size W W' ∧ W'.heap[W.heap.size]? = some (.cells #[.bool false, .int .i64 l[node].mode, .slice vA l[node].bs.length vc, .int .i64 l[node].time, .string l[node].nm] tN (0, 0))) ⟨pw_below_drewN ((Below.refl W.heap.size W).alloc (Nat.le_refl _) (.cells #[.bool false, .int .i64 l[node].mode, .slice vA l[node].bs.length vc, .int .i64 l[node].time, .string l[node].nm] tN)) 1, alloc_new W _⟩ (fun W2 hW2 => ?_)
  obtain ⟨hB2, ht2⟩ := hW2
  have hs2 := (hB2.block _ (lt_of_heap HS0.out)).trans HS0.out
  have hH2 := HH.out.below hB2
  have hM2 := HM.out.below hB2
  obtain ⟨tb, htb⟩ : ∃ tb, W.heap.size = tb := ⟨_, rfl⟩
  rw [htb] at ht2 ⊢
  clear x0 x1 x2 x3 x4 m2 c0 n1 n3
  have t0 := (cell_of ht2 0).trans rfl
  have t4 := (cell_of ht2 4).trans rfl
  have s0 := (cell_of hs2 0).trans rfl
  have s6 := (cell_of hs2 6).trans rfl
  have s7 := (cell_of hs2 7).trans rfl
  have s9 := (cell_of hs2 9).trans rfl
  have c0 := (cell_of hH2 0).trans rfl
  have c1 := (cell_of hH2 1).trans rfl
  have c3 := (cell_of hH2 3).trans rfl
  have hBB := HB0.out.trans (hB2.mono HB0.out.size)
  have HBB := Lib.hid hBB
  have HM2 := Lib.hid hM2
  clear hB2 ht2 hs2 hH2 hM2 hBB htb
  have hG : 0 ≤ n ∧ n ≤ 4096 ∧ -1099511627776 ≤ off ∧ off ≤ 1099511627776 := ⟨gn0, gn1, go0, go1⟩
  have HG := Lib.hid hG
  have kdl : decide ((4096 : Int) < (dl : Int)) = false := by simp; omega
  have kn0 : decide (n < 0) = false := by simp; omega
  have kn1 : decide ((4096 : Int) < n) = false := by simp; omega
  have ko1 : decide ((1099511627776 : Int) < off) = false := by simp; omega
  have ko0 : decide (off < (-1099511627776 : Int)) = false := by simp; omega
  clear hG gdl gn0 gn1 go1 go0
  go_wp2_with fail
  go_ret
  refine ⟨_, rfl, HBB.out, fun hr => ⟨fun _ _ => HG.out, fun h => by simp only at h; omega, fun h => by simp only at h; omega, fun h => by simp only at h; omega, fun _ => (by simpa using hr), fun h => by simp only at h; omega⟩⟩
set_option maxRecDepth 100000 in
set_option maxHeartbeats 2000000 in
theorem speaks_op16a (m hb B mb : Nat) (nv av dv : Value) (l : List SN) (h : SH) (s : Stp) (w : World) (hop : s.op = 16) (hM : MemIs w m nv av dv mb) (hH : SHIs w hb h) (hN : NodesIs w B dv l) (hi : h.node < l.length) (hdir : l[h.node].dir = false) (gdl : s.dl ≤ 4096) (gn0 : 0 ≤ s.n) (gn1 : s.n ≤ 4096) (go1 : s.off ≤ 1099511627776) (go0 : -1099511627776 ≤ s.off) (hat : h.at_ < 2199023255552) :
    Calls Tryd.prog 51 #[.pointer (some ⟨m, 0, none⟩), .pointer (some ⟨hb, 0, none⟩), s.val] w (SpeaksPost w (stOf h l[h.node]) s) := by
  obtain ⟨op, name, other, flag, perm, hh, da, dl, dc, off, wh, n⟩ := s
  obtain ⟨node, at_, listed, cl, ro⟩ := h
  simp only [stOf] at hop hi hdir gdl gn0 gn1 go1 go0 hat ⊢
  subst hop
  unfold Stp.val
  simp only
  go_enter Tryd.func51, Tryd.ntmps51
  go_upto_region 1 with fail
  refine world_as (fun W => Below w.heap.size w W ∧ W.heap[w.heap.size]? = some (.cells #[.int .i64 16, .string name, .string other, .int .i64 flag, .int .i64 perm, .int .i64 hh, .slice da dl dc, .int .i64 off, .int .i64 wh, .int .i64 n] tStep (0, 0))) ⟨(Below.refl _ _).alloc (Nat.le_refl _) _, alloc_new _ _⟩ (fun W hW => ?_)
  obtain ⟨hB0, hs0⟩ := hW
  have hM1 := hM.below hB0
  have hH1 := hH.below hB0
  have hN1 := NodesIs.below hN hB0
  obtain ⟨nb, cap, v, rfl, hle, hnb, ⟨x0, x1, x2, x3, x4⟩, hov, hf, hz⟩ := NodesIs.at hN1 hi
  obtain ⟨vA, vc, rfl, hby⟩ := BytesIn.own hov hf
  have m2 := (cell_of hM1 2).trans rfl
  have c0 := (cell_of hH1 0).trans rfl
  have n1 : w.heap.size ≠ hb := blk_ne hs0 hH1 (by decide)
  have n3 : w.heap.size ≠ nb := by obtain ⟨c, hc⟩ := hnb; exact blk_ne hs0 hc (by decide)
  obtain ⟨sb, hsb⟩ : ∃ sb, w.heap.size = sb := ⟨_, rfl⟩
  rw [hsb] at hs0 n1 n3 ⊢
  have HSB := Lib.hid hsb
  have HH := Lib.hid hH1
  have HM := Lib.hid hM1
  have HS0 := Lib.hid hs0
  have HB0 := Lib.hid hB0
  rw [hdir] at x0
  clear hle hnb hov hf hz hby hM hH hN hM1 hH1 hN1 hsb hs0 hB0 hdir
  go_region_held3 (fun w' => w'.cell? ⟨m, 2, none⟩ = some (.slice (some ⟨nb, 0, none⟩) l.length cap) ∧ w'.cell? ⟨hb, 0, none⟩ = some (.int .i64 (node : Int)) ∧ w'.cell? ⟨nb, node * 5, none⟩ = some (.bool false) ∧ w'.cell? ⟨nb, node * 5 + 1, none⟩ = some (.int .i64 l[node].mode) ∧ w'.cell? ⟨nb, node * 5 + 2, none⟩ = some (.slice vA l[node].bs.length vc) ∧ w'.cell? ⟨nb, node * 5 + 3, none⟩ = some (.int .i64 l[node].time) ∧ w'.cell? ⟨nb, node * 5 + 4, none⟩ = some (.string l[node].nm)) (first | go_keep | (go_split_ands; refine ⟨?_, ?_, ?_, ?_, ?_, ?_, ?_⟩ <;> assumption)) (fail)
  go_upto_region 2 with fail
  refine world_as (fun W' => Below W.heap.size W W' ∧ W'.heap[W.heap.size]? = some (.cells #[.bool false, .int .i64 l[node].mode, .slice vA l[node].bs.length vc, .int .i64 l[node].time, .string l[node].nm] tN (0, 0))) ⟨pw_below_drewN ((Below.refl W.heap.size W).alloc (Nat.le_refl _) (.cells #[.bool false, .int .i64 l[node].mode, .slice vA l[node].bs.length vc, .int .i64 l[node].time, .string l[node].nm] tN)) 1, alloc_new W _⟩ (fun W2 hW2 => ?_)
  obtain ⟨hB2, ht2⟩ := hW2
  have hs2 := (hB2.block _ (lt_of_heap HS0.out)).trans HS0.out
  have hH2 := HH.out.below hB2
  have hM2 := HM.out.below hB2
  obtain ⟨tb, htb⟩ : ∃ tb, W.heap.size = tb := ⟨_, rfl⟩
  rw [htb] at ht2 ⊢
  clear x0 x1 x2 x3 x4 m2 c0 n1 n3
  have t0 := (cell_of ht2 0).trans rfl
  have t4 := (cell_of ht2 4).trans rfl
  have s0 := (cell_of hs2 0).trans rfl
  have s6 := (cell_of hs2 6).trans rfl
  have s7 := (cell_of hs2 7).trans rfl
  have s9 := (cell_of hs2 9).trans rfl
  have c0 := (cell_of hH2 0).trans rfl
  have c1 := (cell_of hH2 1).trans rfl
  have c3 := (cell_of hH2 3).trans rfl
  have hBB := HB0.out.trans (hB2.mono HB0.out.size)
  have HBB := Lib.hid hBB
  have HM2 := Lib.hid hM2
  clear hB2 ht2 hs2 hH2 hM2 hBB htb
  have hG : 0 ≤ n ∧ n ≤ 4096 ∧ -1099511627776 ≤ off ∧ off ≤ 1099511627776 := ⟨gn0, gn1, go0, go1⟩
  have HG := Lib.hid hG
  have kdl : decide ((4096 : Int) < (dl : Int)) = false := by simp; omega
  have kn0 : decide (n < 0) = false := by simp; omega
  have kn1 : decide ((4096 : Int) < n) = false := by simp; omega
  have ko1 : decide ((1099511627776 : Int) < off) = false := by simp; omega
  have ko0 : decide (off < (-1099511627776 : Int)) = false := by simp; omega
  have ka : decide (at_ < 2199023255552) = true := decide_eq_true hat
  have HAT := Lib.hid hat
  clear hat
  clear hG gdl gn0 gn1 go1 go0
  go_wp2_with fail
  go_ret
  refine ⟨_, rfl, HBB.out, fun hr => ⟨fun _ _ => HG.out, fun h => by simp only at h; omega, fun h => by simp only at h; omega, fun h => by simp only at h; omega, fun h => by simp only at h; omega, fun _ => ⟨(by simpa using hr), HAT.out⟩⟩⟩
set_option maxRecDepth 100000 in
set_option maxHeartbeats 2000000 in
theorem speaks_op16b (m hb B mb : Nat) (nv av dv : Value) (l : List SN) (h : SH) (s : Stp) (w : World) (hop : s.op = 16) (hM : MemIs w m nv av dv mb) (hH : SHIs w hb h) (hN : NodesIs w B dv l) (hi : h.node < l.length) (hdir : l[h.node].dir = false) (gdl : s.dl ≤ 4096) (gn0 : 0 ≤ s.n) (gn1 : s.n ≤ 4096) (go1 : s.off ≤ 1099511627776) (go0 : -1099511627776 ≤ s.off) (hat : 2199023255552 ≤ h.at_) :
    Calls Tryd.prog 51 #[.pointer (some ⟨m, 0, none⟩), .pointer (some ⟨hb, 0, none⟩), s.val] w (SpeaksPost w (stOf h l[h.node]) s) := by
  obtain ⟨op, name, other, flag, perm, hh, da, dl, dc, off, wh, n⟩ := s
  obtain ⟨node, at_, listed, cl, ro⟩ := h
  simp only [stOf] at hop hi hdir gdl gn0 gn1 go1 go0 hat ⊢
  subst hop
  unfold Stp.val
  simp only
  go_enter Tryd.func51, Tryd.ntmps51
  go_upto_region 1 with fail
  refine world_as (fun W => Below w.heap.size w W ∧ W.heap[w.heap.size]? = some (.cells #[.int .i64 16, .string name, .string other, .int .i64 flag, .int .i64 perm, .int .i64 hh, .slice da dl dc, .int .i64 off, .int .i64 wh, .int .i64 n] tStep (0, 0))) ⟨(Below.refl _ _).alloc (Nat.le_refl _) _, alloc_new _ _⟩ (fun W hW => ?_)
  obtain ⟨hB0, hs0⟩ := hW
  have hM1 := hM.below hB0
  have hH1 := hH.below hB0
  have hN1 := NodesIs.below hN hB0
  obtain ⟨nb, cap, v, rfl, hle, hnb, ⟨x0, x1, x2, x3, x4⟩, hov, hf, hz⟩ := NodesIs.at hN1 hi
  obtain ⟨vA, vc, rfl, hby⟩ := BytesIn.own hov hf
  have m2 := (cell_of hM1 2).trans rfl
  have c0 := (cell_of hH1 0).trans rfl
  have n1 : w.heap.size ≠ hb := blk_ne hs0 hH1 (by decide)
  have n3 : w.heap.size ≠ nb := by obtain ⟨c, hc⟩ := hnb; exact blk_ne hs0 hc (by decide)
  obtain ⟨sb, hsb⟩ : ∃ sb, w.heap.size = sb := ⟨_, rfl⟩
  rw [hsb] at hs0 n1 n3 ⊢
  have HSB := Lib.hid hsb
  have HH := Lib.hid hH1
  have HM := Lib.hid hM1
  have HS0 := Lib.hid hs0
  have HB0 := Lib.hid hB0
  rw [hdir] at x0
  clear hle hnb hov hf hz hby hM hH hN hM1 hH1 hN1 hsb hs0 hB0 hdir
  go_region_held3 (fun w' => w'.cell? ⟨m, 2, none⟩ = some (.slice (some ⟨nb, 0, none⟩) l.length cap) ∧ w'.cell? ⟨hb, 0, none⟩ = some (.int .i64 (node : Int)) ∧ w'.cell? ⟨nb, node * 5, none⟩ = some (.bool false) ∧ w'.cell? ⟨nb, node * 5 + 1, none⟩ = some (.int .i64 l[node].mode) ∧ w'.cell? ⟨nb, node * 5 + 2, none⟩ = some (.slice vA l[node].bs.length vc) ∧ w'.cell? ⟨nb, node * 5 + 3, none⟩ = some (.int .i64 l[node].time) ∧ w'.cell? ⟨nb, node * 5 + 4, none⟩ = some (.string l[node].nm)) (first | go_keep | (go_split_ands; refine ⟨?_, ?_, ?_, ?_, ?_, ?_, ?_⟩ <;> assumption)) (fail)
  go_upto_region 2 with fail
  refine world_as (fun W' => Below W.heap.size W W' ∧ W'.heap[W.heap.size]? = some (.cells #[.bool false, .int .i64 l[node].mode, .slice vA l[node].bs.length vc, .int .i64 l[node].time, .string l[node].nm] tN (0, 0))) ⟨pw_below_drewN ((Below.refl W.heap.size W).alloc (Nat.le_refl _) (.cells #[.bool false, .int .i64 l[node].mode, .slice vA l[node].bs.length vc, .int .i64 l[node].time, .string l[node].nm] tN)) 1, alloc_new W _⟩ (fun W2 hW2 => ?_)
  obtain ⟨hB2, ht2⟩ := hW2
  have hs2 := (hB2.block _ (lt_of_heap HS0.out)).trans HS0.out
  have hH2 := HH.out.below hB2
  have hM2 := HM.out.below hB2
  obtain ⟨tb, htb⟩ : ∃ tb, W.heap.size = tb := ⟨_, rfl⟩
  rw [htb] at ht2 ⊢
  clear x0 x1 x2 x3 x4 m2 c0 n1 n3
  have t0 := (cell_of ht2 0).trans rfl
  have t4 := (cell_of ht2 4).trans rfl
  have s0 := (cell_of hs2 0).trans rfl
  have s6 := (cell_of hs2 6).trans rfl
  have s7 := (cell_of hs2 7).trans rfl
  have s9 := (cell_of hs2 9).trans rfl
  have c0 := (cell_of hH2 0).trans rfl
  have c1 := (cell_of hH2 1).trans rfl
  have c3 := (cell_of hH2 3).trans rfl
  have hBB := HB0.out.trans (hB2.mono HB0.out.size)
  have HBB := Lib.hid hBB
  have HM2 := Lib.hid hM2
  clear hB2 ht2 hs2 hH2 hM2 hBB htb
  have hG : 0 ≤ n ∧ n ≤ 4096 ∧ -1099511627776 ≤ off ∧ off ≤ 1099511627776 := ⟨gn0, gn1, go0, go1⟩
  have HG := Lib.hid hG
  have kdl : decide ((4096 : Int) < (dl : Int)) = false := by simp; omega
  have kn0 : decide (n < 0) = false := by simp; omega
  have kn1 : decide ((4096 : Int) < n) = false := by simp; omega
  have ko1 : decide ((1099511627776 : Int) < off) = false := by simp; omega
  have ko0 : decide (off < (-1099511627776 : Int)) = false := by simp; omega
  have ka : decide (at_ < 2199023255552) = false := by simp; omega
  clear hat
  clear hG gdl gn0 gn1 go1 go0
  go_wp2_with fail
  go_ret
  exact ⟨false, rfl, HBB.out, fun h => by cases h⟩
end Sb
end Go.Proofs.YtnkhfdnahnphdaaDoor
end
