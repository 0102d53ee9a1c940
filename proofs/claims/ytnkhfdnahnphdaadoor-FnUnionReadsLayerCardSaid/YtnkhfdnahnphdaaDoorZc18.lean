/- Parts of the proof, merged: Sl, Pm, Sm, Sn, So. -/
import Derived.Maps.OwnSet
import Derived.Maps.RangeWalk
import Derived.Maps.Views
import Derived.StringKeys
import Derived.Test.YtnkhfdnahnphdaaDoorZc01
import Derived.Test.YtnkhfdnahnphdaaDoorZc14
import Derived.Test.YtnkhfdnahnphdaaDoorZc17
section
namespace Go.Proofs.YtnkhfdnahnphdaaDoor
open Go.ChangeShapes Go.WideShapes Go.ChangeAt Go.RowKit Go.Rd
open Go.Proofs.YtnkhfdnahnphdaaDoorW.PrintWords Go.Proofs.YtnkhfdnahnphdaaDoorW.PrintLast Go.Proofs.YtnkhfdnahnphdaaDoorW.PrintMore
set_option linter.unusedVariables false
set_option linter.unusedSimpArgs false
namespace Sb
theorem find_some (m B mb : Nat) (nv av dv : Value) (l : List ByteArray) (ats : List Int) (x : ByteArray) (w : World) (hM : MemIs w m nv av dv mb) (hN : NamesIs w B nv l) (hA : AtsIs w B av ats) (hla : ats.length = l.length) (hl : l.length ≤ 1000000) :
    Calls Tryd.prog 75 #[.pointer (some ⟨m, 0, none⟩), .string x] w fun e w' => ∃ q b, e = .returned (.tuple #[.int .i64 q, .bool b]) ∧ w' = w :=
  (find_any m B mb nv av dv l ats x w hM hN hA hla hl).mono fun e w' h => ⟨_, _, h.1, h.2⟩
set_option maxRecDepth 100000 in
set_option maxHeartbeats 2000000 in
theorem speaks_19 (m hb B mb : Nat) (nv av dv : Value) (l : List SN) (h : SH) (s : Stp) (w : World) (hop : s.op = 19) (hM : MemIs w m nv av dv mb) (hH : SHIs w hb h) (hN : NodesIs w B dv l) (hi : h.node < l.length) (hdir : l[h.node].dir = false) (names : List ByteArray) (ats : List Int) (hNN : NamesIs w B nv names) (hAA : AtsIs w B av ats) (hla : ats.length = names.length) (hl : names.length ≤ 1000000) :
    Calls Tryd.prog 51 #[.pointer (some ⟨m, 0, none⟩), .pointer (some ⟨hb, 0, none⟩), s.val] w (SpeaksPost w (stOf h l[h.node]) s) := by
  obtain ⟨op, name, other, flag, perm, hh, da, dl, dc, off, wh, n⟩ := s
  obtain ⟨node, at_, listed, cl, ro⟩ := h
  simp only [stOf] at hop hi hdir ⊢
  subst hop
  unfold Stp.val
  simp only
  have HNN := Lib.hid hNN
  have HAA := Lib.hid hAA
  have HLA := Lib.hid hla
  clear hNN hAA hla
  go_enter Tryd.func51, Tryd.ntmps51
  go_upto_region 1 with fail
  refine world_as (fun W => Below w.heap.size w W ∧ W.heap[w.heap.size]? = some (.cells #[.int .i64 19, .string name, .string other, .int .i64 flag, .int .i64 perm, .int .i64 hh, .slice da dl dc, .int .i64 off, .int .i64 wh, .int .i64 n] tStep (0, 0))) ⟨(Below.refl _ _).alloc (Nat.le_refl _) _, alloc_new _ _⟩ (fun W hW => ?_)
  obtain ⟨hB0, hs0⟩ := hW
  have hM1 := hM.below hB0
  have hH1 := hH.below hB0
  have hN1 := NodesIs.below hN hB0
  obtain ⟨nb, cap, v, rfl, hle, hnb, ⟨x0, x1, x2, x3, x4⟩, hov, hf, hz⟩ := NodesIs.at hN1 hi
  obtain ⟨vA, vc, rfl, hby⟩ := BytesIn.own hov hf
  have m2 := (cell_of hM1 2).trans rfl
  have c0 := (cell_of hH1 0).trans rfl
  have n1 : w.heap.size ≠ hb := blk_ne hs0 hH1 (by decide)
  have n3 : w.heap.size ≠ nb := by obtain ⟨c, hc⟩ := hnb; exact blk_ne hs0 hc (by decide)
  obtain ⟨sb, hsb⟩ : ∃ sb, w.heap.size = sb := ⟨_, rfl⟩
  rw [hsb] at hs0 n1 n3 ⊢
  have HSB := Lib.hid hsb
  have HH := Lib.hid hH1
  have HM := Lib.hid hM1
  have HS0 := Lib.hid hs0
  have HB0 := Lib.hid hB0
  rw [hdir] at x0
  clear hle hnb hov hf hz hby hM hH hN hM1 hH1 hN1 hsb hs0 hB0 hdir
  go_region_held3 (fun w' => w'.cell? ⟨m, 2, none⟩ = some (.slice (some ⟨nb, 0, none⟩) l.length cap) ∧ w'.cell? ⟨hb, 0, none⟩ = some (.int .i64 (node : Int)) ∧ w'.cell? ⟨nb, node * 5, none⟩ = some (.bool false) ∧ w'.cell? ⟨nb, node * 5 + 1, none⟩ = some (.int .i64 l[node].mode) ∧ w'.cell? ⟨nb, node * 5 + 2, none⟩ = some (.slice vA l[node].bs.length vc) ∧ w'.cell? ⟨nb, node * 5 + 3, none⟩ = some (.int .i64 l[node].time) ∧ w'.cell? ⟨nb, node * 5 + 4, none⟩ = some (.string l[node].nm)) (first | go_keep | (go_split_ands; refine ⟨?_, ?_, ?_, ?_, ?_, ?_, ?_⟩ <;> assumption)) (fail)
  go_upto_region 2 with fail
  refine world_as (fun W' => Below W.heap.size W W' ∧ W'.heap[W.heap.size]? = some (.cells #[.bool false, .int .i64 l[node].mode, .slice vA l[node].bs.length vc, .int .i64 l[node].time, .string l[node].nm] tN (0, 0))) ⟨pw_below_drewN ((Below.refl W.heap.size W).alloc (Nat.le_refl _) (.cells #[.bool false, .int .i64 l[node].mode, .slice vA l[node].bs.length vc, .int .i64 l[node].time, .string l[node].nm] tN)) 1, alloc_new W _⟩ (fun W2 hW2 => ?_)
  obtain ⟨hB2, ht2⟩ := hW2
  have hs2 := (hB2.block _ (lt_of_heap HS0.out)).trans HS0.out
  have hH2 := HH.out.below hB2
  have hM2 := HM.out.below hB2
  obtain ⟨tb, htb⟩ : ∃ tb, W.heap.size = tb := ⟨_, rfl⟩
  rw [htb] at ht2 ⊢
  clear x0 x1 x2 x3 x4 m2 c0 n1 n3
  have t0 := (cell_of ht2 0).trans rfl
  have t4 := (cell_of ht2 4).trans rfl
  have s0 := (cell_of hs2 0).trans rfl
  have s6 := (cell_of hs2 6).trans rfl
  have s7 := (cell_of hs2 7).trans rfl
  have s9 := (cell_of hs2 9).trans rfl
  have c0 := (cell_of hH2 0).trans rfl
  have c1 := (cell_of hH2 1).trans rfl
  have c3 := (cell_of hH2 3).trans rfl
  have hBB := HB0.out.trans (hB2.mono HB0.out.size)
  have HBB := Lib.hid hBB
  have HM2 := Lib.hid hM2
  clear hB2 ht2 hs2 hH2 hM2 hBB htb
  go_wp2_with (go_at_call 75; refine (find_some m B mb nv av _ names ats l[node].nm _ HM2.out (pw_own_below HNN.out HBB.out) (pw_own_below HAA.out HBB.out) HLA.out hl).mono ?_; rintro e W3 ⟨q, b, rfl, rfl⟩)
  go_quiet (fail)
  go_wp2_with fail
  go_ret
  exact ⟨true, rfl, pw_below_drewN HBB.out _, fun _ => ⟨fun h1 h2 => by simp only at h1 h2; omega, fun h => by simp only at h; omega, fun h => by simp only at h; omega, fun h => by simp only at h; omega, fun h => by simp only at h; omega, fun h => by simp only at h; omega⟩⟩
set_option maxRecDepth 100000 in
set_option maxHeartbeats 2000000 in
theorem speaks_20 (m hb B mb : Nat) (nv av dv : Value) (l : List SN) (h : SH) (s : Stp) (w : World) (hop : s.op = 20) (hM : MemIs w m nv av dv mb) (hH : SHIs w hb h) (hN : NodesIs w B dv l) (hi : h.node < l.length) (hdir : l[h.node].dir = false) (names : List ByteArray) (ats : List Int) (hNN : NamesIs w B nv names) (hAA : AtsIs w B av ats) (hla : ats.length = names.length) (hl : names.length ≤ 1000000) :
    Calls Tryd.prog 51 #[.pointer (some ⟨m, 0, none⟩), .pointer (some ⟨hb, 0, none⟩), s.val] w (SpeaksPost w (stOf h l[h.node]) s) := by
  obtain ⟨op, name, other, flag, perm, hh, da, dl, dc, off, wh, n⟩ := s
  obtain ⟨node, at_, listed, cl, ro⟩ := h
  simp only [stOf] at hop hi hdir ⊢
  subst hop
  unfold Stp.val
  simp only
  have HNN := Lib.hid hNN
  have HAA := Lib.hid hAA
  have HLA := Lib.hid hla
  clear hNN hAA hla
  go_enter Tryd.func51, Tryd.ntmps51
  go_upto_region 1 with fail
  refine world_as (fun W => Below w.heap.size w W ∧ W.heap[w.heap.size]? = some (.cells #[.int .i64 20, .string name, .string other, .int .i64 flag, .int .i64 perm, .int .i64 hh, .slice da dl dc, .int .i64 off, .int .i64 wh, .int .i64 n] tStep (0, 0))) ⟨(Below.refl _ _).alloc (Nat.le_refl _) _, alloc_new _ _⟩ (fun W hW => ?_)
  obtain ⟨hB0, hs0⟩ := hW
  have hM1 := hM.below hB0
  have hH1 := hH.below hB0
  have hN1 := NodesIs.below hN hB0
  obtain ⟨nb, cap, v, rfl, hle, hnb, ⟨x0, x1, x2, x3, x4⟩, hov, hf, hz⟩ := NodesIs.at hN1 hi
  obtain ⟨vA, vc, rfl, hby⟩ := BytesIn.own hov hf
  have m2 := (cell_of hM1 2).trans rfl
  have c0 := (cell_of hH1 0).trans rfl
  have n1 : w.heap.size ≠ hb := blk_ne hs0 hH1 (by decide)
  have n3 : w.heap.size ≠ nb := by obtain ⟨c, hc⟩ := hnb; exact blk_ne hs0 hc (by decide)
  obtain ⟨sb, hsb⟩ : ∃ sb, w.heap.size = sb := ⟨_, rfl⟩
  rw [hsb] at hs0 n1 n3 ⊢
  have HSB := Lib.hid hsb
  have HH := Lib.hid hH1
  have HM := Lib.hid hM1
  have HS0 := Lib.hid hs0
  have HB0 := Lib.hid hB0
  rw [hdir] at x0
  clear hle hnb hov hf hz hby hM hH hN hM1 hH1 hN1 hsb hs0 hB0 hdir
  go_region_held3 (fun w' => w'.cell? ⟨m, 2, none⟩ = some (.slice (some ⟨nb, 0, none⟩) l.length cap) ∧ w'.cell? ⟨hb, 0, none⟩ = some (.int .i64 (node : Int)) ∧ w'.cell? ⟨nb, node * 5, none⟩ = some (.bool false) ∧ w'.cell? ⟨nb, node * 5 + 1, none⟩ = some (.int .i64 l[node].mode) ∧ w'.cell? ⟨nb, node * 5 + 2, none⟩ = some (.slice vA l[node].bs.length vc) ∧ w'.cell? ⟨nb, node * 5 + 3, none⟩ = some (.int .i64 l[node].time) ∧ w'.cell? ⟨nb, node * 5 + 4, none⟩ = some (.string l[node].nm)) (first | go_keep | (go_split_ands; refine ⟨?_, ?_, ?_, ?_, ?_, ?_, ?_⟩ <;> assumption)) (fail)
  go_upto_region 2 with fail
  refine world_as (fun W' => Below W.heap.size W W' ∧ W'.heap[W.heap.size]? = some (.cells #[.bool false, .int .i64 l[node].mode, .slice vA l[node].bs.length vc, .int .i64 l[node].time, .string l[node].nm] tN (0, 0))) ⟨pw_below_drewN ((Below.refl W.heap.size W).alloc (Nat.le_refl _) (.cells #[.bool false, .int .i64 l[node].mode, .slice vA l[node].bs.length vc, .int .i64 l[node].time, .string l[node].nm] tN)) 1, alloc_new W _⟩ (fun W2 hW2 => ?_)
  obtain ⟨hB2, ht2⟩ := hW2
  have hs2 := (hB2.block _ (lt_of_heap HS0.out)).trans HS0.out
  have hH2 := HH.out.below hB2
  have hM2 := HM.out.below hB2
  obtain ⟨tb, htb⟩ : ∃ tb, W.heap.size = tb := ⟨_, rfl⟩
  rw [htb] at ht2 ⊢
  clear x0 x1 x2 x3 x4 m2 c0 n1 n3
  have t0 := (cell_of ht2 0).trans rfl
  have t4 := (cell_of ht2 4).trans rfl
  have s0 := (cell_of hs2 0).trans rfl
  have s6 := (cell_of hs2 6).trans rfl
  have s7 := (cell_of hs2 7).trans rfl
  have s9 := (cell_of hs2 9).trans rfl
  have c0 := (cell_of hH2 0).trans rfl
  have c1 := (cell_of hH2 1).trans rfl
  have c3 := (cell_of hH2 3).trans rfl
  have hBB := HB0.out.trans (hB2.mono HB0.out.size)
  have HBB := Lib.hid hBB
  have HM2 := Lib.hid hM2
  clear hB2 ht2 hs2 hH2 hM2 hBB htb
  go_wp2_with (go_at_call 75; refine (find_some m B mb nv av _ names ats l[node].nm _ HM2.out (pw_own_below HNN.out HBB.out) (pw_own_below HAA.out HBB.out) HLA.out hl).mono ?_; rintro e W3 ⟨q, b, rfl, rfl⟩)
  go_quiet (fail)
  go_wp2_with fail
  go_ret
  exact ⟨true, rfl, pw_below_drewN HBB.out _, fun _ => ⟨fun h1 h2 => by simp only at h1 h2; omega, fun h => by simp only at h; omega, fun h => by simp only at h; omega, fun h => by simp only at h; omega, fun h => by simp only at h; omega, fun h => by simp only at h; omega⟩⟩
theorem speaks_file (m hb B mb : Nat) (nv av dv : Value) (l : List SN) (h : SH) (s : Stp) (w : World) (hop : 12 ≤ s.op ∧ s.op ≤ 23 ∧ s.op ≠ 13 ∧ s.op ≠ 21 ∧ s.op ≠ 22) (hM : MemIs w m nv av dv mb) (hH : SHIs w hb h) (hN : NodesIs w B dv l) (hi : h.node < l.length) (hdir : l[h.node].dir = false)
    (names : List ByteArray) (ats : List Int) (hNN : NamesIs w B nv names) (hAA : AtsIs w B av ats) (hla : ats.length = names.length) (hl : names.length ≤ 1000000) :
    Calls Tryd.prog 51 #[.pointer (some ⟨m, 0, none⟩), .pointer (some ⟨hb, 0, none⟩), s.val] w (SpeaksPost w (stOf h l[h.node]) s) := by
  by_cases e18 : s.op = 18
  · exact speaks_18 m hb B mb nv av dv l h s w e18 hM hH hN hi hdir
  by_cases e23 : s.op = 23
  · exact speaks_23 m hb B mb nv av dv l h s w e23 hM hH hN hi hdir
  by_cases e19 : s.op = 19
  · exact speaks_19 m hb B mb nv av dv l h s w e19 hM hH hN hi hdir names ats hNN hAA hla hl
  by_cases e20 : s.op = 20
  · exact speaks_20 m hb B mb nv av dv l h s w e20 hM hH hN hi hdir names ats hNN hAA hla hl
  have ho : OpF s.op := by unfold OpF; omega
  by_cases gdl : s.dl ≤ 4096
  rotate_left
  · exact speaks_no_dl m hb B mb nv av dv l h s w ho hM hH hN hi hdir (by omega)
  by_cases gn0 : 0 ≤ s.n
  rotate_left
  · exact speaks_no_n0 m hb B mb nv av dv l h s w ho hM hH hN hi hdir gdl (by omega)
  by_cases gn1 : s.n ≤ 4096
  rotate_left
  · exact speaks_no_n1 m hb B mb nv av dv l h s w ho hM hH hN hi hdir gdl gn0 (by omega)
  by_cases go1 : s.off ≤ 1099511627776
  rotate_left
  · exact speaks_no_o1 m hb B mb nv av dv l h s w ho hM hH hN hi hdir gdl gn0 gn1 (by omega)
  by_cases go0 : -1099511627776 ≤ s.off
  rotate_left
  · exact speaks_no_o0 m hb B mb nv av dv l h s w ho hM hH hN hi hdir gdl gn0 gn1 go1 (by omega)
  rcases ho with e | e | e | e | e
  · cases hcl : h.cl with
    | true => exact speaks_op12a m hb B mb nv av dv l h s w e hM hH hN hi hdir gdl gn0 gn1 go1 go0 hcl
    | false => exact speaks_op12b m hb B mb nv av dv l h s w e hM hH hN hi hdir gdl gn0 gn1 go1 go0 hcl
  · by_cases hat : 0 ≤ h.at_
    · exact speaks_op14a m hb B mb nv av dv l h s w e hM hH hN hi hdir gdl gn0 gn1 go1 go0 hat
    · exact speaks_op14b m hb B mb nv av dv l h s w e hM hH hN hi hdir gdl gn0 gn1 go1 go0 (by omega)
  · by_cases hat : 0 ≤ s.off
    · exact speaks_op15a m hb B mb nv av dv l h s w e hM hH hN hi hdir gdl gn0 gn1 go1 go0 hat
    · exact speaks_op15b m hb B mb nv av dv l h s w e hM hH hN hi hdir gdl gn0 gn1 go1 go0 (by omega)
  · by_cases hat : h.at_ < 2199023255552
    · exact speaks_op16a m hb B mb nv av dv l h s w e hM hH hN hi hdir gdl gn0 gn1 go1 go0 hat
    · exact speaks_op16b m hb B mb nv av dv l h s w e hM hH hN hi hdir gdl gn0 gn1 go1 go0 (by omega)
  · exact speaks_op17 m hb B mb nv av dv l h s w e hM hH hN hi hdir gdl gn0 gn1 go1 go0
end Sb
end Go.Proofs.YtnkhfdnahnphdaaDoor
end
section
namespace Go.Rd
open Go.RowKit Go.Maps Go.ChangeMaps Go.MapKept Go.WideShapes
set_option linter.unusedVariables false
/-- How a pointer to a block reads, as an element of a map. -/
def ptrD (b : Nat) : DataW Unit := .lit (.int .i64 b)
def ptrR : Value → Option (DataW Unit × List MemPlace)
  | .pointer (some ⟨b, 0, none⟩) => some (ptrD b, [])
  | .pointer none => some (.nil, [])
  | _ => none
theorem ptrD_inj {a b : Nat} (h : ptrD a = ptrD b) : a = b := by
  unfold ptrD at h
  injection h with h
  injection h with _ h
  exact Int.ofNat.inj h
theorem ptrR_inv {v : Value} {y : DataW Unit × List MemPlace} (h : ptrR v = some y) : (∃ b, v = .pointer (some ⟨b, 0, none⟩) ∧ y.1 = ptrD b) ∨ (v = .pointer none ∧ y.1 = .nil) := by
  unfold ptrR at h
  split at h
  · cases h; exact .inl ⟨_, rfl, rfl⟩
  · cases h; exact .inr ⟨rfl, rfl⟩
  · cases h
theorem ptr_at {v : Value} {ps : List MemPlace} {b : Nat} (h : ptrR v = some (ptrD b, ps)) : v = .pointer (some ⟨b, 0, none⟩) := by
  rcases ptrR_inv h with ⟨c, rfl, e⟩ | ⟨_, e⟩
  · rw [ptrD_inj e]
  · cases e
open Classical in
/-- A key given a block; a key taken away. -/
noncomputable def upd (F : Lit → Option Nat) (k : Lit) (v : Option Nat) : Lit → Option Nat := fun k' => if k' = k then v else F k'
theorem upd_same (F : Lit → Option Nat) (k : Lit) (v : Option Nat) : upd F k v k = v := by unfold upd; simp
theorem upd_other (F : Lit → Option Nat) {k k' : Lit} (v : Option Nat) (h : k' ≠ k) : upd F k v k' = F k' := by unfold upd; simp [h]
/-- A datum holds what a function says. -/
def Holds (D : DataW Unit) (F : Lit → Option Nat) : Prop := Tidy D ∧ ∀ k, (F k = none → has D k = false) ∧ ∀ b, F k = some b → has D k = true ∧ ∀ z, D.atKey k z = ptrD b
/-- Block mb of w is a map with n entries that holds what F says. -/
def PMap (P : Program) (k : TypeId) (w : World) (mb : Nat) (F : Lit → Option Nat) (n : Nat) : Prop := ∃ D : DataW Unit, w.ownsMap P k ptrR mb n D ∧ size D = n ∧ Holds D F
theorem Holds.start : Holds (.map []) (fun _ => none) := ⟨tidy_empty, fun k => ⟨fun _ => rfl, fun b h => by cases h⟩⟩
theorem Holds.has_iff {D : DataW Unit} {F : Lit → Option Nat} (h : Holds D F) (k : Lit) : has D k = (F k).isSome := by
  cases hf : F k with
  | none => exact (h.2 k).1 hf
  | some b => exact ((h.2 k).2 b hf).1
theorem Holds.put {D : DataW Unit} {F : Lit → Option Nat} (h : Holds D F) {k : Lit} (hk : WideAt.IsKeyLit k) (b : Nat) : Holds (D.put k (ptrD b)) (upd F k (some b)) := by
  refine ⟨h.1.put hk _, fun k' => ?_⟩
  by_cases e : k' = k
  · subst e
    rw [upd_same]
    exact ⟨fun h => (by cases h), fun c hc => by cases hc; exact ⟨has_put_same h.1.isMap hk _, fun z => atKey_put_same h.1.isMap hk _ z⟩⟩
  · rw [upd_other F _ e, has_put_other e]
    exact ⟨(h.2 k').1, fun c hc => ⟨((h.2 k').2 c hc).1, fun z => by rw [atKey_put_other e]; exact ((h.2 k').2 c hc).2 z⟩⟩
section
variable {P : Program} {k e t : TypeId} {w w' : World} {mb n : Nat} {F : Lit → Option Nat}
theorem owns_exact {D : DataW Unit} {m : Nat} (h : w.ownsMap P k ptrR mb m D) : w.ownsMap P k ptrR mb (size D) D := by
  obtain ⟨es, clock, hb, hF, _, rfl⟩ := h
  have e1 : size (DataW.map ((es.toList.map (WideElems.rg P k ptrR)).foldr DataW.insert [])) = es.size := by simp [size, length_sorted]
  exact ⟨es, clock, hb, hF, by omega, rfl⟩
theorem PMap.made (P : Program) (k : TypeId) (w : World) : PMap P k (w.alloc (.map #[] 0)) w.heap.size (fun _ => none) 0 :=
  ⟨.map [], World.ownsMap_made _ _ _ _, rfl, Holds.start⟩
theorem PMap.block (h : PMap P k w mb F n) : ∃ es clock, w.heap[mb]? = some (.map es clock) := by
  obtain ⟨D, ⟨es, clock, hb, _⟩, _⟩ := h
  exact ⟨es, clock, hb⟩
theorem PMap.lt (h : PMap P k w mb F n) : mb < w.heap.size := by
  obtain ⟨es, clock, hb⟩ := h.block
  exact lt_of_heap hb
theorem PMap.same (h : PMap P k w mb F n) (hb : w'.heap[mb]? = w.heap[mb]?) : PMap P k w' mb F n := by
  obtain ⟨D, ⟨es, clock, h1, h2⟩, h3⟩ := h
  exact ⟨D, ⟨es, clock, hb.trans h1, h2⟩, h3⟩
theorem PMap.wrote {S : Nat → Prop} (h : PMap P k w mb F n) (hw : Wrote S w w') (hs : ¬ S mb) : PMap P k w' mb F n := h.same (hw.block mb h.lt hs)
theorem PMap.below {B : Nat} (h : PMap P k w mb F n) (hb : Below w.heap.size w w') : PMap P k w' mb F n := h.wrote (S := fun _ => False) (Wrote.of_below hb) id
theorem PMap.drewN (h : PMap P k w mb F n) (j : Nat) : PMap P k (w.drewN j) mb F n := h.same rfl
/-- A map's block is no block of cells. -/
theorem PMap.ne_cells (h : PMap P k w mb F n) {b : Nat} {c : Array Value} {t : TypeId} {fr : Nat × Nat} (hb : w.heap[b]? = some (.cells c t fr)) : b ≠ mb := by
  obtain ⟨es, clock, h1⟩ := h.block
  rintro rfl
  rw [h1] at hb
  cases hb
theorem wrote_turned {b : Nat} (h : w.mapTurned w' b) : Wrote (fun k => k = b) w w' ∧ w'.heap.size = w.heap.size := by
  obtain ⟨es, clock, es', clock', hb, rfl⟩ := h
  refine ⟨⟨rfl, rfl, rfl, by simp [setBlock], fun i _ hi => heap_setBlock_other hb _ (fun e => hi e)⟩, by simp [setBlock]⟩
theorem PMap.look (h : PMap P k w mb F n) (K : Keyed P k) (ht : P.underlying t = some (.map k e)) (hz : (zeroValue e).run P w = .ok (.pointer none) w) {key : Value} {kl : Lit} (hkey : keyOf P k key = some kl) {b : Nat} (hf : F kl = some b) :
    (Instr.lookup t (.map (some mb)) key false).run P w = .ok (.pointer (some ⟨b, 0, none⟩)) w := by
  obtain ⟨D, h1, _, h2⟩ := h
  obtain ⟨v, ps, hr, hv⟩ := h1.lookup K ht hz (zd := .nil) (zp := []) rfl hkey
  have := (h2.2 kl).2 b hf
  rw [this.2] at hv
  rw [ptr_at hv] at hr
  exact hr
/-- The number of entries behind a store. -/
noncomputable def updN (F : Lit → Option Nat) (n : Nat) (kl : Lit) : Nat := if (F kl).isSome then n else n + 1
theorem PMap.put_run (h : PMap P k w mb F n) (K : Keyed P k) (ht : P.underlying t = some (.map k e)) (hn : n < maxLen) {key : Value} {kl : Lit} (hkey : keyOf P k key = some kl) (hk : WideAt.IsKeyLit kl) (b : Nat) :
    ∃ w', (Instr.mapUpdate t (.map (some mb)) key (.pointer (some ⟨b, 0, none⟩))).run P w = .ok () w' ∧ PMap P k w' mb (upd F kl (some b)) (updN F n kl) ∧ w.mapTurned w' mb := by
  obtain ⟨D, h1, h2, h3⟩ := h
  obtain ⟨w', hr, ho, hm⟩ := h1.store K ht hn hkey (show ptrR (.pointer (some ⟨b, 0, none⟩)) = some (ptrD b, []) from rfl)
  refine ⟨w', hr, ⟨D.put kl (ptrD b), ?_, ?_, h3.put hk b⟩, hm⟩
  · have := owns_exact ho
    rw [size_put h3.1, h3.has_iff, h2] at this
    exact this
  · rw [size_put h3.1, h3.has_iff, h2]
    rfl
end
section
variable {P : Program} (w : World) {ops : Array Oper} {rest : List Oper} {o : Oper} {a : Act} {Q : Exit → Act → World → Prop} {k e t : TypeId} {mb n : Nat} {F : Lit → Option Nat}
/-- 'm[k] = p' at the operation. -/
theorem wpList_put_pmap (hg : o.guard = none) (m x v : Operand) (t : TypeId) (hop : o.op = Op.mapUpdate t m x v) (k e : TypeId) (K : Keyed P k) (ht : P.underlying t = some (.map k e)) (mb n : Nat) (F : Lit → Option Nat)
    (hm : a.eval m = .map (some mb)) (h : PMap P k w mb F n) (hn : n < maxLen) (key : Value) (kl : Lit) (b : Nat) (hx : a.eval x = key) (hv : a.eval v = .pointer (some ⟨b, 0, none⟩)) (hkey : keyOf P k key = some kl) (hk : WideAt.IsKeyLit kl)
    (hK : ∀ w', PMap P k w' mb (upd F kl (some b)) (updN F n kl) → w.mapTurned w' mb → wpList P ops Q rest (a.put o.dst undef) w') : wpList P ops Q (o :: rest) a w := by
  refine wpList_plain hg fun K' hK' => ?_
  obtain ⟨w', hrun, r1, r2⟩ := h.put_run K ht hn hkey hk b
  unfold Oper.wp
  simp [execOp, hop, hm, hx, hv, hrun, Result.andThen]
  exact hK' _ _ (hK w' r1 r2)
end
theorem length_le_of_sub {α : Type} : ∀ {l l' : List α}, l.Nodup → (∀ x ∈ l, x ∈ l') → l.length ≤ l'.length
  | [], _, _, _ => Nat.zero_le _
  | x :: l, l', hn, hs => by
    obtain ⟨s, t, rfl⟩ := List.append_of_mem (hs x (by simp))
    have hn' := List.nodup_cons.1 hn
    have := length_le_of_sub (l' := s ++ t) hn'.2 (fun y hy => by
      have h1 := hs y (by simp [hy])
      have hne : y ≠ x := fun e => hn'.1 (e ▸ hy)
      simp only [List.mem_append, List.mem_cons] at h1 ⊢
      rcases h1 with h | h | h
      · exact .inl h
      · exact absurd h hne
      · exact .inr h)
    simp at this ⊢
    omega
/-- Of the keys those of L have come, each once; 'left' says which are still to come. -/
def Came (F : Lit → Option Nat) (left : Lit → Bool) (L : List Lit) : Prop := L.Nodup ∧ ∀ k, k ∈ L ↔ ((F k).isSome = true ∧ left k = false)
theorem Came.start {D : DataW Unit} {F : Lit → Option Nat} (h : Holds D F) : Came F (has D) [] := by
  refine ⟨List.nodup_nil, fun k => ?_⟩
  rw [h.has_iff]
  cases F k <;> simp
theorem sameKey_self {k : Lit} (hk : WideAt.IsKeyLit k) : k.sameKey k = true := by
  cases k <;> simp [WideAt.IsKeyLit] at hk <;> simp [Lit.sameKey]
theorem Came.done {F : Lit → Option Nat} {left : Lit → Bool} {L : List Lit} (h : Came F left L) (hl : ∀ kl, left kl = false) : L.Nodup ∧ ∀ k, k ∈ L ↔ (F k).isSome = true := ⟨h.1, fun k => by rw [h.2 k, hl k]; simp⟩
/-- As many keys as entries. -/
theorem PMap.count {P : Program} {k : TypeId} {w : World} {mb n : Nat} {F : Lit → Option Nat} {L : List Lit} (h : PMap P k w mb F n) (K : Keyed P k) (h1 : L.Nodup) (h2 : ∀ k, k ∈ L ↔ (F k).isSome = true) : L.length = n := by
  obtain ⟨D, ho, hs, hD⟩ := h
  obtain ⟨es, clock, hb, hF, _, rfl⟩ := ho
  obtain ⟨es2, e2, hp⟩ := hD.1
  injection e2 with e2
  have hsz : es2.length = n := by rw [← hs, ← e2]; rfl
  have hkeys : ∀ p ∈ es2, WideAt.IsKeyLit p.1 := by
    intro p hpm
    rw [← e2] at hpm
    have hpm2 : p ∈ es.toList.map (WideElems.rg P k ptrR) := by
      have := (List.Perm.mem_iff (sorted_perm (es.toList.map (WideElems.rg P k ptrR)))).1 hpm
      exact this
    obtain ⟨v, hv⟩ := fit_keys hF p hpm2
    exact K.key hv
  have hm : ∀ x, x ∈ es2.map (·.1) ↔ (F x).isSome = true := by
    intro x
    rw [← hD.has_iff, e2, has_eq, List.any_eq_true]
    constructor
    · intro hx
      obtain ⟨p, hp1, rfl⟩ := List.mem_map.1 hx
      exact ⟨p, hp1, sameKey_self (hkeys p hp1)⟩
    · rintro ⟨p, hp1, hp2⟩
      rw [← WideAt.sameKey_eq hp2]
      exact List.mem_map.2 ⟨p, hp1, rfl⟩
  have hn : (es2.map (·.1)).Nodup := by
    rw [List.Nodup, List.pairwise_map]
    exact hp
  have a1 := length_le_of_sub h1 (fun x hx => (hm x).2 ((h2 x).1 hx))
  have a2 := length_le_of_sub hn (fun x hx => (h2 x).2 ((hm x).1 hx))
  rw [List.length_map] at a1 a2
  omega
end Go.Rd
end
section
namespace Go.Proofs.YtnkhfdnahnphdaaDoor
open Go.ChangeShapes Go.WideShapes Go.ChangeAt Go.RowKit Go.Rd Go.Maps
open Go.Proofs.YtnkhfdnahnphdaaDoorW.PrintWords Go.Proofs.YtnkhfdnahnphdaaDoorW.PrintLast Go.Proofs.YtnkhfdnahnphdaaDoorW.PrintMore
set_option linter.unusedVariables false
set_option linter.unusedSimpArgs false
namespace Sb
theorem lawI : Maps.Keyed Tryd.prog 3 := Maps.int_keyed Tryd.underlying3
theorem zeroP (w : World) : (zeroValue 116).run Tryd.prog w = .ok (.pointer none) w := by kernel_rfl
theorem hand_look {w : World} {mb nm hb : Nat} {F : Lit → Option Nat} (h : PMap Tryd.prog 3 w mb F nm) (i : Int) (hw : (Lit.int .i64 i).wf = true) (hF : F (.int .i64 i) = some hb) (j : Nat) :
    (Instr.lookup 77 (.map (some mb)) (.int .i64 i) false).run Tryd.prog (w.drewN j) = .ok (.pointer (some ⟨hb, 0, none⟩)) (w.drewN j) :=
  (h.drewN j).look lawI Tryd.underlying77 (zeroP _) (keyOf_int_mk Tryd.underlying3 hw) hF
/-- What stands behind a call that left a file's state: the answer's block is still there. -/
theorem FilePost.ansBlk {w w2 : World} {hb nb cap n ab : Nat} {o : Obj} (hp : Wrote (fun k => k = hb ∨ (Value.slice (some ⟨nb, 0, none⟩) n cap).ownBlock = some k) w w2) (ha : w.heap[ab]? = some o) (n2 : ab ≠ hb) (n4 : ab ≠ nb) : w2.heap[ab]? = some o :=
  (hp.block _ (lt_of_heap ha) (fun hs => by
    rcases hs with e | e
    · exact n2 e
    · simp only [Value.ownBlock, Option.some.injEq] at e
      exact n4 e.symm)).trans ha
set_option maxRecDepth 100000 in
set_option maxHeartbeats 2000000 in
theorem do_any (m hb B mb nm k : Nat) (i : Int) (nv av dv : Value) (F : Lit → Option Nat) (l : List SN) (h : SH) (x : Sx) (w : World) (hM : MemIs w m nv av dv mb) (hP : PMap Tryd.prog 3 w mb F nm) (hwf : (Lit.int .i64 x.1.h).wf = true) (hF : F (.int .i64 x.1.h) = some hb)
    (hH : SHIs w hb h) (hN : NodesIs w B dv l) (hi : h.node < l.length) (hdir : l[h.node].dir = false)
    (hO : OpU x) (hS : SpkW (stOf h l[h.node]) x) (hG : Good k (stOf h l[h.node])) (hk : k ≤ 1000000) (hb1 : BytesIn w x.1.da x.1.dl x.1.dc x.2) (hB : B ≤ w.heap.size) :
    Calls Tryd.prog 53 #[.pointer (some ⟨m, 0, none⟩), .int .i64 i, x.1.val] w (FilePost w hb B dv l h.node (doF (stOf h l[h.node]) x).1 (handOf h l[h.node] x) (nodeOf h l[h.node] x)) := by
  have hfile := fun (W : World) (hb0 : Below w.heap.size w W) => file_do m hb B mb k nv av dv l h x W (hM.below hb0) (hH.below hb0) (NodesIs.below hN hb0) hi hdir hO hS hG hk (hb1.below hb0) (Nat.le_trans hB hb0.size)
  obtain ⟨o1, o2, o3, o4, o5⟩ := hO
  obtain ⟨⟨op, name, other, flag, perm, hh, da, dl, dc, off, wh, n⟩, b⟩ := x
  simp only at o1 o2 hwf hF
  unfold Stp.val at hfile ⊢
  simp only at hfile ⊢
  generalize (doF (stOf h l[h.node]) (_, b)).1 = a at *
  generalize handOf h l[h.node] (_, b) = h' at *
  generalize nodeOf h l[h.node] (_, b) = n' at *
  have HFI := Lib.hid hfile
  have e1 : decide (0 ≤ op) = true := by simp; omega
  have e2 : decide (op ≤ 2) = false := by simp; omega
  have e3 : decide ((3 : Int) ≤ op) = true := by simp; omega
  have e4 : decide (op ≤ 11) = false := by simp; omega
  have e5 : decide (op < 12) = false := by simp; omega
  have e6 : decide ((23 : Int) < op) = false := by simp; omega
  obtain ⟨nb, cap, v, rfl, hle, ⟨nc, hnc⟩, _⟩ := NodesIs.at hN hi
  have hrow := hN
  have HM := Lib.hid hM
  have HP := Lib.hid hP
  have HH := Lib.hid hH
  have HN := Lib.hid hN
  have HF : Hid (F (.int .i64 hh) = some hb) := hF
  have HI := Lib.hid hi
  clear hfile o1 o2 o3 o4 o5 hS hG hk hb1 hdir hle hrow hM hP hH hN hF
  go_enter Tryd.func53, Tryd.ntmps53
  go_upto_region 1 with fail
  refine world_as (fun W => Below w.heap.size w W ∧ W.heap[w.heap.size]? = some (.cells #[.int .i64 op, .string name, .string other, .int .i64 flag, .int .i64 perm, .int .i64 hh, .slice da dl dc, .int .i64 off, .int .i64 wh, .int .i64 n] tStep (0, 0)) ∧ W.heap[w.heap.size + 1]? = some (.cells #[.int .i64 0, .int .i64 0, .int .i64 0, .slice none 0 0, .slice none 0 0, .slice none 0 0] tAns (0, 0))) ⟨two_below _ _ _, two_old _ _ _, two_new _ _ _⟩ (fun W hW => ?_)
  obtain ⟨hB0, hs0, ha0⟩ := hW
  have hn0 := (hB0.block _ (lt_of_heap hnc)).trans hnc
  have hH1 := HH.out.below hB0
  have n2 : w.heap.size + 1 ≠ hb := blk_ne ha0 hH1 (by decide)
  have n4 : w.heap.size + 1 ≠ nb := blk_ne ha0 hn0 (by decide)
  have hM1 := HM.out.below hB0
  have hlook := hand_look (HP.out.below (B := 0) hB0) hh hwf HF.out
  have hcore : Core w W hb B (.slice (some ⟨nb, 0, none⟩) l.length cap) l h (.slice none 0 0) [] (w.heap.size + 1) := ⟨hH1, NodesIs.below HN.out hB0, Wrote.of_below hB0, World.ownsRow_nil _ _ _ _, Typed.of ha0, Nat.le_add_right _ 1⟩
  have m3 := (cell_of hM1 3).trans rfl
  have s0 := (cell_of hs0 0).trans rfl
  have s1 := (cell_of hs0 1).trans rfl
  have s2 := (cell_of hs0 2).trans rfl
  have s3 := (cell_of hs0 3).trans rfl
  have s4 := (cell_of hs0 4).trans rfl
  have s5 := (cell_of hs0 5).trans rfl
  have s6 := (cell_of hs0 6).trans rfl
  have s7 := (cell_of hs0 7).trans rfl
  have s8 := (cell_of hs0 8).trans rfl
  have s9 := (cell_of hs0 9).trans rfl
  have HC := Lib.hid hcore
  have HA0 := Lib.hid ha0
  have HB0 := Lib.hid hB0
  obtain ⟨sb, hsb⟩ : ∃ sb, w.heap.size = sb := ⟨_, rfl⟩
  rw [hsb] at s0 s1 s2 s3 s4 s5 s6 s7 s8 s9 n2 n4 HC HA0 ⊢
  clear hcore ha0 hB0 hs0 hn0 hnc hH1 hM1 hsb
  go_upto_region 5 with fail
  go_quiet (fail)
  go_wp2_with fail
  refine (HFI.out _ (pw_below_drewN HB0.out nq)).mono ?_
  rintro e W2 ⟨v2, rfl, ho2, hh2, hn2, hw2⟩
  simp only [ansVal]
  have hC2 := (HC.out.drewN nq).step hw2 hh2 hn2 n2 n4
  have ha2 := FilePost.ansBlk hw2 (drewN_keeps HA0.out nq) n2 n4
  obtain ⟨VA, vc2, hv2⟩ := own_slice ho2
  subst hv2
  obtain ⟨⟨p0, p1, p2, p3, p4, p5⟩, q0, q1, q2, q3, q4, q5⟩ := cells6 ha2
  have HC2 := Lib.hid hC2
  have HO2 := Lib.hid ho2
  clear hC2 ho2 hw2 hh2 hn2 ha2 hlook
  go_wp2_with fail
  refine bodyPost_ret (v := ansVal a.e a.n a.off (.slice VA a.data.length vc2)) (by simp [results, Tryd.results53, go_sem, ansVal, p0, p1, p2, p3, p4, p5]) rfl ?_
  refine Core.post (a := a) (ab := sb + 1) ?_
  have hC : Core w W2 hb B _ (l.set h.node n') h' (.slice VA a.data.length vc2) a.data (sb + 1) := HC2.out.with_ (row_le HO2.out (Nat.le_trans HB0.out.size (Nat.le_refl _)))
  repeat (first | with_reducible exact hC | with_reducible refine Core.set ?_ _ _ | with_reducible refine Core.drew ?_)
/-- What Speaks tells of a step on an open file. -/
def SpeaksAll (w : World) (s : St) (x : Sx) (e : Ending) (w' : World) : Prop := ∃ r : Bool, e = .returned (.bool r) ∧ Below w.heap.size w w' ∧ (r = true → SpkP s x)
set_option maxHeartbeats 2000000 in
theorem says_a (m hb B mb nm : Nat) (nv av dv : Value) (F : Lit → Option Nat) (l : List SN) (h : SH) (x : Sx) (w : World) (hM : MemIs w m nv av dv mb) (hP : PMap Tryd.prog 3 w mb F nm) (hwf : (Lit.int .i64 x.1.h).wf = true) (hF : F (.int .i64 x.1.h) = some hb)
    (hH : SHIs w hb h) (hN : NodesIs w B dv l) (hi : h.node < l.length) (hdir : l[h.node].dir = false) (hO : OpU x)
    (names : List ByteArray) (ats : List Int) (hNN : NamesIs w B nv names) (hAA : AtsIs w B av ats) (hla : ats.length = names.length) (hl : names.length ≤ 1000000) (g1 : 400 < x.1.name.size) :
    Calls Tryd.prog 28 #[.pointer (some ⟨m, 0, none⟩), x.1.val] w (SpeaksAll w (stOf h l[h.node]) x) := by
  have hfile := fun (W : World) (hb0 : Below w.heap.size w W) => speaks_file m hb B mb nv av dv l h x.1 W hO (hM.below hb0) (hH.below hb0) (NodesIs.below hN hb0) hi hdir names ats (pw_own_below hNN hb0) (pw_own_below hAA hb0) hla hl
  obtain ⟨o1, o2, o3, o4, o5⟩ := hO
  obtain ⟨⟨op, name, other, flag, perm, hh, da, dl, dc, off, wh, n⟩, b⟩ := x
  simp only at o1 o2 hwf hF g1
  unfold SpeaksAll
  generalize stOf h l[h.node] = st at *
  unfold Stp.val at hfile ⊢
  simp only at hfile ⊢
  have HFI := Lib.hid hfile
  have k1 : decide ((400 : Int) < (name.size : Int)) = true := by simp; omega
  have e1 : decide (0 ≤ op) = true := by simp; omega
  have e2 : decide (op ≤ 2) = false := by simp; omega
  have e3 : decide ((3 : Int) ≤ op) = true := by simp; omega
  have e4 : decide (op ≤ 11) = false := by simp; omega
  have HM := Lib.hid hM
  have HP := Lib.hid hP
  have HF : Hid (F (.int .i64 hh) = some hb) := hF
  clear hfile o1 o2 o3 o4 o5 hdir hM hP hH hN hF hNN hAA hla hl g1
  go_enter Tryd.func28, Tryd.ntmps28
  go_upto_region 1 with fail
  refine world_as (fun W => Below w.heap.size w W ∧ W.heap[w.heap.size]? = some (.cells #[.int .i64 op, .string name, .string other, .int .i64 flag, .int .i64 perm, .int .i64 hh, .slice da dl dc, .int .i64 off, .int .i64 wh, .int .i64 n] tStep (0, 0))) ⟨(Below.refl _ _).alloc (Nat.le_refl _) _, alloc_new _ _⟩ (fun W hW => ?_)
  obtain ⟨hB0, hs0⟩ := hW
  have hlook := hand_look (HP.out.below (B := 0) hB0) hh hwf HF.out
  have m3 := (cell_of (HM.out.below hB0) 3).trans rfl
  have s0 := (cell_of hs0 0).trans rfl
  have s1 := (cell_of hs0 1).trans rfl
  have s2 := (cell_of hs0 2).trans rfl
  have s3 := (cell_of hs0 3).trans rfl
  have s4 := (cell_of hs0 4).trans rfl
  have s5 := (cell_of hs0 5).trans rfl
  have s6 := (cell_of hs0 6).trans rfl
  have s7 := (cell_of hs0 7).trans rfl
  have s8 := (cell_of hs0 8).trans rfl
  have s9 := (cell_of hs0 9).trans rfl
  have HB0 := Lib.hid hB0
  obtain ⟨sb, hsb⟩ : ∃ sb, w.heap.size = sb := ⟨_, rfl⟩
  rw [hsb] at s0 s1 s2 s3 s4 s5 s6 s7 s8 s9 ⊢
  clear hB0 hs0 hsb
  go_wp2_with fail
  go_ret
  exact ⟨false, rfl, HB0.out, fun h => by cases h⟩
set_option maxHeartbeats 2000000 in
theorem says_b (m hb B mb nm : Nat) (nv av dv : Value) (F : Lit → Option Nat) (l : List SN) (h : SH) (x : Sx) (w : World) (hM : MemIs w m nv av dv mb) (hP : PMap Tryd.prog 3 w mb F nm) (hwf : (Lit.int .i64 x.1.h).wf = true) (hF : F (.int .i64 x.1.h) = some hb)
    (hH : SHIs w hb h) (hN : NodesIs w B dv l) (hi : h.node < l.length) (hdir : l[h.node].dir = false) (hO : OpU x)
    (names : List ByteArray) (ats : List Int) (hNN : NamesIs w B nv names) (hAA : AtsIs w B av ats) (hla : ats.length = names.length) (hl : names.length ≤ 1000000) (g1 : x.1.name.size ≤ 400) (g2 : 400 < x.1.other.size) :
    Calls Tryd.prog 28 #[.pointer (some ⟨m, 0, none⟩), x.1.val] w (SpeaksAll w (stOf h l[h.node]) x) := by
  have hfile := fun (W : World) (hb0 : Below w.heap.size w W) => speaks_file m hb B mb nv av dv l h x.1 W hO (hM.below hb0) (hH.below hb0) (NodesIs.below hN hb0) hi hdir names ats (pw_own_below hNN hb0) (pw_own_below hAA hb0) hla hl
  obtain ⟨o1, o2, o3, o4, o5⟩ := hO
  obtain ⟨⟨op, name, other, flag, perm, hh, da, dl, dc, off, wh, n⟩, b⟩ := x
  simp only at o1 o2 hwf hF g1 g2
  unfold SpeaksAll
  generalize stOf h l[h.node] = st at *
  unfold Stp.val at hfile ⊢
  simp only at hfile ⊢
  have HFI := Lib.hid hfile
  have k1 : decide ((400 : Int) < (name.size : Int)) = false := by simp; omega
  have k2 : decide ((400 : Int) < (other.size : Int)) = true := by simp; omega
  have e1 : decide (0 ≤ op) = true := by simp; omega
  have e2 : decide (op ≤ 2) = false := by simp; omega
  have e3 : decide ((3 : Int) ≤ op) = true := by simp; omega
  have e4 : decide (op ≤ 11) = false := by simp; omega
  have HM := Lib.hid hM
  have HP := Lib.hid hP
  have HF : Hid (F (.int .i64 hh) = some hb) := hF
  clear hfile o1 o2 o3 o4 o5 hdir hM hP hH hN hF hNN hAA hla hl g1 g2
  go_enter Tryd.func28, Tryd.ntmps28
  go_upto_region 1 with fail
  refine world_as (fun W => Below w.heap.size w W ∧ W.heap[w.heap.size]? = some (.cells #[.int .i64 op, .string name, .string other, .int .i64 flag, .int .i64 perm, .int .i64 hh, .slice da dl dc, .int .i64 off, .int .i64 wh, .int .i64 n] tStep (0, 0))) ⟨(Below.refl _ _).alloc (Nat.le_refl _) _, alloc_new _ _⟩ (fun W hW => ?_)
  obtain ⟨hB0, hs0⟩ := hW
  have hlook := hand_look (HP.out.below (B := 0) hB0) hh hwf HF.out
  have m3 := (cell_of (HM.out.below hB0) 3).trans rfl
  have s0 := (cell_of hs0 0).trans rfl
  have s1 := (cell_of hs0 1).trans rfl
  have s2 := (cell_of hs0 2).trans rfl
  have s3 := (cell_of hs0 3).trans rfl
  have s4 := (cell_of hs0 4).trans rfl
  have s5 := (cell_of hs0 5).trans rfl
  have s6 := (cell_of hs0 6).trans rfl
  have s7 := (cell_of hs0 7).trans rfl
  have s8 := (cell_of hs0 8).trans rfl
  have s9 := (cell_of hs0 9).trans rfl
  have HB0 := Lib.hid hB0
  obtain ⟨sb, hsb⟩ : ∃ sb, w.heap.size = sb := ⟨_, rfl⟩
  rw [hsb] at s0 s1 s2 s3 s4 s5 s6 s7 s8 s9 ⊢
  clear hB0 hs0 hsb
  go_wp2_with fail
  go_ret
  exact ⟨false, rfl, HB0.out, fun h => by cases h⟩
set_option maxHeartbeats 2000000 in
theorem says_c (m hb B mb nm : Nat) (nv av dv : Value) (F : Lit → Option Nat) (l : List SN) (h : SH) (x : Sx) (w : World) (hM : MemIs w m nv av dv mb) (hP : PMap Tryd.prog 3 w mb F nm) (hwf : (Lit.int .i64 x.1.h).wf = true) (hF : F (.int .i64 x.1.h) = some hb)
    (hH : SHIs w hb h) (hN : NodesIs w B dv l) (hi : h.node < l.length) (hdir : l[h.node].dir = false) (hO : OpU x)
    (names : List ByteArray) (ats : List Int) (hNN : NamesIs w B nv names) (hAA : AtsIs w B av ats) (hla : ats.length = names.length) (hl : names.length ≤ 1000000) (g1 : x.1.name.size ≤ 400) (g2 : x.1.other.size ≤ 400) (g3 : 4096 < x.1.dl) :
    Calls Tryd.prog 28 #[.pointer (some ⟨m, 0, none⟩), x.1.val] w (SpeaksAll w (stOf h l[h.node]) x) := by
  have hfile := fun (W : World) (hb0 : Below w.heap.size w W) => speaks_file m hb B mb nv av dv l h x.1 W hO (hM.below hb0) (hH.below hb0) (NodesIs.below hN hb0) hi hdir names ats (pw_own_below hNN hb0) (pw_own_below hAA hb0) hla hl
  obtain ⟨o1, o2, o3, o4, o5⟩ := hO
  obtain ⟨⟨op, name, other, flag, perm, hh, da, dl, dc, off, wh, n⟩, b⟩ := x
  simp only at o1 o2 hwf hF g1 g2 g3
  unfold SpeaksAll
  generalize stOf h l[h.node] = st at *
  unfold Stp.val at hfile ⊢
  simp only at hfile ⊢
  have HFI := Lib.hid hfile
  have k1 : decide ((400 : Int) < (name.size : Int)) = false := by simp; omega
  have k2 : decide ((400 : Int) < (other.size : Int)) = false := by simp; omega
  have k3 : decide ((4096 : Int) < (dl : Int)) = true := by simp; omega
  have e1 : decide (0 ≤ op) = true := by simp; omega
  have e2 : decide (op ≤ 2) = false := by simp; omega
  have e3 : decide ((3 : Int) ≤ op) = true := by simp; omega
  have e4 : decide (op ≤ 11) = false := by simp; omega
  have HM := Lib.hid hM
  have HP := Lib.hid hP
  have HF : Hid (F (.int .i64 hh) = some hb) := hF
  clear hfile o1 o2 o3 o4 o5 hdir hM hP hH hN hF hNN hAA hla hl g1 g2 g3
  go_enter Tryd.func28, Tryd.ntmps28
  go_upto_region 1 with fail
  refine world_as (fun W => Below w.heap.size w W ∧ W.heap[w.heap.size]? = some (.cells #[.int .i64 op, .string name, .string other, .int .i64 flag, .int .i64 perm, .int .i64 hh, .slice da dl dc, .int .i64 off, .int .i64 wh, .int .i64 n] tStep (0, 0))) ⟨(Below.refl _ _).alloc (Nat.le_refl _) _, alloc_new _ _⟩ (fun W hW => ?_)
  obtain ⟨hB0, hs0⟩ := hW
  have hlook := hand_look (HP.out.below (B := 0) hB0) hh hwf HF.out
  have m3 := (cell_of (HM.out.below hB0) 3).trans rfl
  have s0 := (cell_of hs0 0).trans rfl
  have s1 := (cell_of hs0 1).trans rfl
  have s2 := (cell_of hs0 2).trans rfl
  have s3 := (cell_of hs0 3).trans rfl
  have s4 := (cell_of hs0 4).trans rfl
  have s5 := (cell_of hs0 5).trans rfl
  have s6 := (cell_of hs0 6).trans rfl
  have s7 := (cell_of hs0 7).trans rfl
  have s8 := (cell_of hs0 8).trans rfl
  have s9 := (cell_of hs0 9).trans rfl
  have HB0 := Lib.hid hB0
  obtain ⟨sb, hsb⟩ : ∃ sb, w.heap.size = sb := ⟨_, rfl⟩
  rw [hsb] at s0 s1 s2 s3 s4 s5 s6 s7 s8 s9 ⊢
  clear hB0 hs0 hsb
  go_wp2_with fail
  go_ret
  exact ⟨false, rfl, HB0.out, fun h => by cases h⟩
set_option maxHeartbeats 2000000 in
theorem says_d (m hb B mb nm : Nat) (nv av dv : Value) (F : Lit → Option Nat) (l : List SN) (h : SH) (x : Sx) (w : World) (hM : MemIs w m nv av dv mb) (hP : PMap Tryd.prog 3 w mb F nm) (hwf : (Lit.int .i64 x.1.h).wf = true) (hF : F (.int .i64 x.1.h) = some hb)
    (hH : SHIs w hb h) (hN : NodesIs w B dv l) (hi : h.node < l.length) (hdir : l[h.node].dir = false) (hO : OpU x)
    (names : List ByteArray) (ats : List Int) (hNN : NamesIs w B nv names) (hAA : AtsIs w B av ats) (hla : ats.length = names.length) (hl : names.length ≤ 1000000) (g1 : x.1.name.size ≤ 400) (g2 : x.1.other.size ≤ 400) (g3 : x.1.dl ≤ 4096) :
    Calls Tryd.prog 28 #[.pointer (some ⟨m, 0, none⟩), x.1.val] w (SpeaksAll w (stOf h l[h.node]) x) := by
  have hfile := fun (W : World) (hb0 : Below w.heap.size w W) => speaks_file m hb B mb nv av dv l h x.1 W hO (hM.below hb0) (hH.below hb0) (NodesIs.below hN hb0) hi hdir names ats (pw_own_below hNN hb0) (pw_own_below hAA hb0) hla hl
  obtain ⟨o1, o2, o3, o4, o5⟩ := hO
  obtain ⟨⟨op, name, other, flag, perm, hh, da, dl, dc, off, wh, n⟩, b⟩ := x
  simp only at o1 o2 hwf hF g1 g2 g3
  unfold SpeaksAll
  generalize stOf h l[h.node] = st at *
  unfold Stp.val at hfile ⊢
  simp only at hfile ⊢
  have HFI := Lib.hid hfile
  have k1 : decide ((400 : Int) < (name.size : Int)) = false := by simp; omega
  have k2 : decide ((400 : Int) < (other.size : Int)) = false := by simp; omega
  have k3 : decide ((4096 : Int) < (dl : Int)) = false := by simp; omega
  have HG3 := Lib.hid g3
  have e1 : decide (0 ≤ op) = true := by simp; omega
  have e2 : decide (op ≤ 2) = false := by simp; omega
  have e3 : decide ((3 : Int) ≤ op) = true := by simp; omega
  have e4 : decide (op ≤ 11) = false := by simp; omega
  have HM := Lib.hid hM
  have HP := Lib.hid hP
  have HF : Hid (F (.int .i64 hh) = some hb) := hF
  clear hfile o1 o2 o3 o4 o5 hdir hM hP hH hN hF hNN hAA hla hl g1 g2 g3
  go_enter Tryd.func28, Tryd.ntmps28
  go_upto_region 1 with fail
  refine world_as (fun W => Below w.heap.size w W ∧ W.heap[w.heap.size]? = some (.cells #[.int .i64 op, .string name, .string other, .int .i64 flag, .int .i64 perm, .int .i64 hh, .slice da dl dc, .int .i64 off, .int .i64 wh, .int .i64 n] tStep (0, 0))) ⟨(Below.refl _ _).alloc (Nat.le_refl _) _, alloc_new _ _⟩ (fun W hW => ?_)
  obtain ⟨hB0, hs0⟩ := hW
  have hlook := hand_look (HP.out.below (B := 0) hB0) hh hwf HF.out
  have m3 := (cell_of (HM.out.below hB0) 3).trans rfl
  have s0 := (cell_of hs0 0).trans rfl
  have s1 := (cell_of hs0 1).trans rfl
  have s2 := (cell_of hs0 2).trans rfl
  have s3 := (cell_of hs0 3).trans rfl
  have s4 := (cell_of hs0 4).trans rfl
  have s5 := (cell_of hs0 5).trans rfl
  have s6 := (cell_of hs0 6).trans rfl
  have s7 := (cell_of hs0 7).trans rfl
  have s8 := (cell_of hs0 8).trans rfl
  have s9 := (cell_of hs0 9).trans rfl
  have HB0 := Lib.hid hB0
  obtain ⟨sb, hsb⟩ : ∃ sb, w.heap.size = sb := ⟨_, rfl⟩
  rw [hsb] at s0 s1 s2 s3 s4 s5 s6 s7 s8 s9 ⊢
  clear hB0 hs0 hsb
  go_upto_region 7 with fail
  go_quiet (fail)
  go_wp2_with fail
  refine (HFI.out _ (pw_below_drewN HB0.out nq)).mono ?_
  rintro e W2 ⟨r, rfl, hB2, hr⟩
  have hB3 : Below w.heap.size w W2 := (pw_below_drewN HB0.out nq).trans (hB2.mono HB0.out.size)
  have HB3 := Lib.hid hB3
  have HR := Lib.hid hr
  clear hB2 hB3 hr
  go_wp2_with fail
  go_ret
  exact ⟨r, rfl, HB3.out, fun h => have q := HR.out h; ⟨HG3.out, q.fits, q.read, q.write, q.writeAt, q.trunc, q.seek⟩⟩
theorem says_any (m hb B mb nm : Nat) (nv av dv : Value) (F : Lit → Option Nat) (l : List SN) (h : SH) (x : Sx) (w : World) (hM : MemIs w m nv av dv mb) (hP : PMap Tryd.prog 3 w mb F nm) (hwf : (Lit.int .i64 x.1.h).wf = true) (hF : F (.int .i64 x.1.h) = some hb)
    (hH : SHIs w hb h) (hN : NodesIs w B dv l) (hi : h.node < l.length) (hdir : l[h.node].dir = false) (hO : OpU x)
    (names : List ByteArray) (ats : List Int) (hNN : NamesIs w B nv names) (hAA : AtsIs w B av ats) (hla : ats.length = names.length) (hl : names.length ≤ 1000000) :
    Calls Tryd.prog 28 #[.pointer (some ⟨m, 0, none⟩), x.1.val] w (SpeaksAll w (stOf h l[h.node]) x) := by
  by_cases g1 : x.1.name.size ≤ 400
  rotate_left
  · exact says_a m hb B mb nm nv av dv F l h x w hM hP hwf hF hH hN hi hdir hO names ats hNN hAA hla hl (by omega)
  by_cases g2 : x.1.other.size ≤ 400
  rotate_left
  · exact says_b m hb B mb nm nv av dv F l h x w hM hP hwf hF hH hN hi hdir hO names ats hNN hAA hla hl g1 (by omega)
  by_cases g3 : x.1.dl ≤ 4096
  rotate_left
  · exact says_c m hb B mb nm nv av dv F l h x w hM hP hwf hF hH hN hi hdir hO names ats hNN hAA hla hl g1 g2 (by omega)
  · exact says_d m hb B mb nm nv av dv F l h x w hM hP hwf hF hH hN hi hdir hO names ats hNN hAA hla hl g1 g2 g3
end Sb
end Go.Proofs.YtnkhfdnahnphdaaDoor
end
section
namespace Go.Proofs.YtnkhfdnahnphdaaDoor
open Go.ChangeShapes Go.WideShapes Go.ChangeAt Go.RowKit Go.Rd Go.Maps
open Go.Proofs.YtnkhfdnahnphdaaDoorW.PrintWords Go.Proofs.YtnkhfdnahnphdaaDoorW.PrintLast Go.Proofs.YtnkhfdnahnphdaaDoorW.PrintMore
set_option linter.unusedVariables false
namespace Sb
/-- The nodes: the root and the file. -/
def rootN : SN := ⟨true, 2147484141, [], 0, ⟨#[47]⟩⟩
def fileN (s : St) (t : Int) : SN := ⟨false, 268435456, s.bs, t, ⟨#[47, 102]⟩⟩
def handN (s : St) : SH := ⟨1, s.at_, 0, s.cl, s.ro⟩
/-- A file system of the reference with one file, that is open with the number 0. -/
structure UM (w : World) (B m hb : Nat) (dv : Value) (s : St) (t : Int) : Prop where
  mem : ∃ nv av mb nm F names ats, MemIs w m nv av dv mb ∧ PMap Tryd.prog 3 w mb F nm ∧ F (.int .i64 0) = some hb ∧ NamesIs w B nv names ∧ AtsIs w B av ats ∧ ats.length = names.length ∧ names.length ≤ 1000000
  hand : SHIs w hb (handN s)
  nodes : NodesIs w B dv [rootN, fileN s t]
/-- Blocks that steps on open files write. -/
def Soft (w : World) (S : Nat → Prop) : Prop := (∀ k c ty fr, S k → w.heap[k]? = some (.cells c ty fr) → ty = tH ∨ ty = tN) ∧ ∀ k es clk, S k → w.heap[k]? ≠ some (.map es clk)
theorem UM.moved {w w' : World} {B m hb : Nat} {dv : Value} {s s' : St} {t t' : Int} {S : Nat → Prop} (h : UM w B m hb dv s t) (hw : Wrote S w w') (hS : Soft w S) (hh : SHIs w' hb (handN s')) (hn : NodesIs w' B dv [rootN, fileN s' t']) : UM w' B m hb dv s' t' := by
  obtain ⟨⟨nv, av, mb, nm, F, names, ats, hM, hP, hF, hN, hA, hl, hl2⟩, _, _⟩ := h
  have hrow : ∀ {v : Value} {n : Nat} {xs : List Value} {ty : TypeId}, ty ≠ tH → ty ≠ tN → w.ownsRow B ty 1 v n xs → w'.ownsRow B ty 1 v n xs := fun h1 h2 ho => own_move ho (fun k hk => hw.block k (own_lt ho k hk) (fun hs => by
    obtain ⟨c, hc⟩ := own_typed ho k hk
    rcases hS.1 k c _ _ hs hc with e | e
    · exact h1 e
    · exact h2 e))
  refine ⟨⟨nv, av, mb, nm, F, names, ats, hM.wrote hw (fun hs => ?_), hP.wrote hw (fun hs => ?_), hF, hrow (by decide) (by decide) hN, hrow (by decide) (by decide) hA, hl, hl2⟩, hh, hn⟩
  · rcases hS.1 m _ _ _ hs hM with e | e
    · exact absurd e (by decide)
    · exact absurd e (by decide)
  · obtain ⟨es, clk, hb⟩ := hP.block
    exact hS.2 mb es clk hs hb
theorem UM.keep {w w' : World} {B m hb : Nat} {dv : Value} {s : St} {t : Int} {S : Nat → Prop} (h : UM w B m hb dv s t) (hw : Wrote S w w') (hS : Soft w S) (h1 : ¬ S hb) (h2 : ∀ k, dv.ownBlock = some k → ¬ S k) : UM w' B m hb dv s t :=
  h.moved hw hS (h.hand.wrote hw h1) (NodesIs.wrote h.nodes hw (fun k c fr hs hc => by
    rcases hS.1 k c _ _ hs hc with e | e
    · exact absurd e (by decide)
    · exact absurd e (by decide)) h2)
theorem UM.below {w w' : World} {B m hb : Nat} {dv : Value} {s : St} {t : Int} (h : UM w B m hb dv s t) (hw : Below w.heap.size w w') : UM w' B m hb dv s t :=
  h.keep (Wrote.of_below (S := fun _ => False) hw) ⟨fun _ _ _ _ h => h.elim, fun _ _ _ h => h.elim⟩ id (fun _ _ => id)
/-- The blocks of one of them that are written. -/
abbrev Feet1 (hb : Nat) (dv : Value) (k : Nat) : Prop := k = hb ∨ dv.ownBlock = some k
theorem UM.soft {w : World} {B m hb : Nat} {dv : Value} {s : St} {t : Int} (h : UM w B m hb dv s t) : Soft w (Feet1 hb dv) := by
  have hty : ∀ k, Feet1 hb dv k → ∃ c ty fr, w.heap[k]? = some (.cells c ty fr) ∧ (ty = tH ∨ ty = tN) := by
    rintro k (rfl | hk)
    · exact ⟨_, _, _, h.hand, .inl rfl⟩
    · obtain ⟨inner, ho, _⟩ := h.nodes
      obtain ⟨c, hc⟩ := own_typed ho k hk
      exact ⟨_, _, _, hc, .inr rfl⟩
  refine ⟨fun k c ty fr hs hc => ?_, fun k es clk hs hc => ?_⟩
  · obtain ⟨c', ty', fr', h1, h2⟩ := hty k hs
    rw [hc] at h1
    injection h1 with h1
    injection h1 with _ h1
    exact h1 ▸ h2
  · obtain ⟨c', ty', fr', h1, h2⟩ := hty k hs
    rw [hc] at h1
    cases h1
theorem handOf_N (s : St) (t : Int) (x : Sx) (hro : (doF s x).2.ro = s.ro) : handOf (handN s) (fileN s t) x = handN (doF s x).2 := by
  unfold handOf handN
  rw [show stOf ⟨1, s.at_, 0, s.cl, s.ro⟩ (fileN s t) = s from rfl, hro]
theorem doF_keeps_ro (s : St) (x : Sx) : (doF s x).2.ro = s.ro := by
  unfold doF
  repeat' split
  all_goals rfl
/-- What is done to it, wherever it lies. -/
theorem um_do (B m hb k : Nat) (i : Int) (dv : Value) (s : St) (t : Int) (x : Sx) (w : World) (h : UM w B m hb dv s t) (hx : x.1.h = 0) (hO : OpU x) (hS : SpkW s x) (hG : Good k s) (hk : k ≤ 1000000) (hb1 : BytesIn w x.1.da x.1.dl x.1.dc x.2) (hB : B ≤ w.heap.size) :
    Calls Tryd.prog 53 #[.pointer (some ⟨m, 0, none⟩), .int .i64 i, x.1.val] w fun e w' => ∃ v t', e = .returned (ansVal (doF s x).1.e (doF s x).1.n (doF s x).1.off v) ∧ w'.ownsRow w.heap.size 5 1 v (doF s x).1.data.length ((doF s x).1.data.map (.int .u8)) ∧ UM w' B m hb dv (doF s x).2 t' ∧ Wrote (Feet1 hb dv) w w' := by
  obtain ⟨nv, av, mb, nm, F, names, ats, hM, hP, hF, hN, hA, hl, hl2⟩ := h.mem
  have hd := do_any m hb B mb nm k i nv av dv F [rootN, fileN s t] (handN s) x w hM hP (by rw [hx]; decide) (by rw [hx]; exact hF) h.hand h.nodes (by simp [handN]) rfl hO hS hG hk hb1 hB
  refine hd.mono ?_
  rintro e w' ⟨v, rfl, ho, hh, hn, hw⟩
  refine ⟨v, timeOf s t x, rfl, ho, h.moved hw h.soft ?_ ?_, hw⟩
  · have e2 := handOf_N s t x (doF_keeps_ro s x)
    rw [← e2]
    exact hh
  · exact hn
theorem um_says (B m hb : Nat) (dv : Value) (s : St) (t : Int) (x : Sx) (w : World) (h : UM w B m hb dv s t) (hx : x.1.h = 0) (hO : OpU x) :
    Calls Tryd.prog 28 #[.pointer (some ⟨m, 0, none⟩), x.1.val] w (SpeaksAll w s x) := by
  obtain ⟨nv, av, mb, nm, F, names, ats, hM, hP, hF, hN, hA, hl, hl2⟩ := h.mem
  exact says_any m hb B mb nm nv av dv F [rootN, fileN s t] (handN s) x w hM hP (by rw [hx]; decide) (by rw [hx]; exact hF) h.hand h.nodes (by simp [handN]) rfl hO names ats hN hA hl hl2
end Sb
end Go.Proofs.YtnkhfdnahnphdaaDoor
end
section
namespace Go.Proofs.YtnkhfdnahnphdaaDoor
open Go.ChangeShapes Go.WideShapes Go.ChangeAt Go.RowKit Go.Rd Go.Maps
open Go.Proofs.YtnkhfdnahnphdaaDoorW.PrintWords Go.Proofs.YtnkhfdnahnphdaaDoorW.PrintLast Go.Proofs.YtnkhfdnahnphdaaDoorW.PrintMore
set_option linter.unusedVariables false
set_option linter.unusedSimpArgs false
namespace Sb
abbrev tPair : TypeId := 71
/-- The map that says that number 0 is open in both. -/
def OfIs (w : World) (ob : Nat) : Prop := ∃ es clk, w.heap[ob]? = some (.map es clk) ∧ ∀ W : World, W.heap[ob]? = some (.map es clk) → (Instr.lookup 69 (.map (some ob)) (.int .i64 0) false).run Tryd.prog W = .ok (.int .i64 3) W
structure PairIs (w : World) (p m1 m2 ob : Nat) : Prop where
  blk : w.heap[p]? = some (.cells #[.pointer (some ⟨m1, 0, none⟩), .pointer (some ⟨m2, 0, none⟩), .map (some ob)] tPair (0, 0))
  of_ : OfIs w ob
theorem PairIs.keep {w w' : World} {p m1 m2 ob : Nat} {S : Nat → Prop} (h : PairIs w p m1 m2 ob) (hw : Wrote S w w') (hS : Soft w S) : PairIs w' p m1 m2 ob := by
  obtain ⟨hb, es, clk, ho, hr⟩ := h
  refine ⟨(hw.block _ (lt_of_heap hb) (fun hs => ?_)).trans hb, es, clk, (hw.block _ (lt_of_heap ho) (fun hs => hS.2 _ _ _ hs ho)).trans ho, hr⟩
  rcases hS.1 _ _ _ _ hs hb with e | e
  · exact absurd e (by decide)
  · exact absurd e (by decide)
theorem PairIs.below {w w' : World} {p m1 m2 ob : Nat} (h : PairIs w p m1 m2 ob) (hw : Below w.heap.size w w') : PairIs w' p m1 m2 ob :=
  h.keep (Wrote.of_below (S := fun _ => False) hw) ⟨fun _ _ _ _ h => h.elim, fun _ _ _ h => h.elim⟩
/-- The pair's state; 'Both': the blocks that are written. -/
structure UP (w : World) (B p m1 hb1 m2 hb2 ob : Nat) (dv1 dv2 : Value) (s1 s2 : St) : Prop where
  pair : PairIs w p m1 m2 ob
  base : ∃ t, UM w B m1 hb1 dv1 s1 t
  layer : ∃ t, UM w B m2 hb2 dv2 s2 t
  ne : hb1 ≠ hb2
  apart : ∀ k, dv1.ownBlock = some k → dv2.ownBlock ≠ some k
def Both (hb1 hb2 : Nat) (dv1 dv2 : Value) (k : Nat) : Prop := Feet1 hb1 dv1 k ∨ Feet1 hb2 dv2 k
section
variable {w w' : World} {B p m1 hb1 m2 hb2 ob : Nat} {dv1 dv2 : Value} {s1 s2 s' : St}
theorem feet_ne {B' m m' hb hb' : Nat} {dv dv' : Value} {s s'' : St} {t t' : Int} (h : UM w B m hb dv s t) (h' : UM w B' m' hb' dv' s'' t') (hne : hb ≠ hb') (hap : ∀ k, dv.ownBlock = some k → dv'.ownBlock ≠ some k) : ¬ Feet1 hb' dv' hb ∧ ∀ k, dv.ownBlock = some k → ¬ Feet1 hb' dv' k := by
  refine ⟨fun hs => ?_, fun k hk hs => ?_⟩
  · rcases hs with e | e
    · exact hne e
    · obtain ⟨inner, ho, _⟩ := h'.nodes
      obtain ⟨c, hc⟩ := own_typed ho _ e
      exact blk_ne hc h.hand (by decide) rfl
  · rcases hs with e | e
    · subst e
      obtain ⟨inner, ho, _⟩ := h.nodes
      obtain ⟨c, hc⟩ := own_typed ho _ hk
      exact blk_ne hc h'.hand (by decide) rfl
    · exact hap k hk e
theorem UP.below (h : UP w B p m1 hb1 m2 hb2 ob dv1 dv2 s1 s2) (hw : Below w.heap.size w w') : UP w' B p m1 hb1 m2 hb2 ob dv1 dv2 s1 s2 := by
  obtain ⟨hp, ⟨t1, h1⟩, ⟨t2, h2⟩, hne, hap⟩ := h
  exact ⟨hp.below hw, ⟨t1, h1.below hw⟩, ⟨t2, h2.below hw⟩, hne, hap⟩
/-- A step in the layer; in the base. -/
theorem UP.layered (h : UP w B p m1 hb1 m2 hb2 ob dv1 dv2 s1 s2) {t' : Int} (hw : Wrote (Feet1 hb2 dv2) w w') (hl : UM w' B m2 hb2 dv2 s' t') : UP w' B p m1 hb1 m2 hb2 ob dv1 dv2 s1 s' := by
  obtain ⟨hp, ⟨t1, h1⟩, ⟨t2, h2⟩, hne, hap⟩ := h
  have hf := feet_ne h1 h2 hne hap
  exact ⟨hp.keep hw h2.soft, ⟨t1, h1.keep hw h2.soft hf.1 hf.2⟩, ⟨t', hl⟩, hne, hap⟩
theorem UP.based (h : UP w B p m1 hb1 m2 hb2 ob dv1 dv2 s1 s2) {t' : Int} (hw : Wrote (Feet1 hb1 dv1) w w') (hl : UM w' B m1 hb1 dv1 s' t') : UP w' B p m1 hb1 m2 hb2 ob dv1 dv2 s' s2 := by
  obtain ⟨hp, ⟨t1, h1⟩, ⟨t2, h2⟩, hne, hap⟩ := h
  have hf := feet_ne h2 h1 hne.symm (fun k hk e => hap k e hk)
  exact ⟨hp.keep hw h1.soft, ⟨t', hl⟩, ⟨t2, h2.keep hw h1.soft hf.1 hf.2⟩, hne, hap⟩
/-- Do in the layer, in the base. -/
theorem up_layer (h : UP w B p m1 hb1 m2 hb2 ob dv1 dv2 s1 s2) (k : Nat) (i : Int) (x : Sx) (hx : x.1.h = 0) (hO : OpU x) (hS : SpkW s2 x) (hG : Good k s2) (hk : k ≤ 1000000) (hb : BytesIn w x.1.da x.1.dl x.1.dc x.2) (hB : B ≤ w.heap.size) :
    Calls Tryd.prog 53 #[.pointer (some ⟨m2, 0, none⟩), .int .i64 i, x.1.val] w fun e w' => ∃ v, e = .returned (ansVal (doF s2 x).1.e (doF s2 x).1.n (doF s2 x).1.off v) ∧ w'.ownsRow w.heap.size 5 1 v (doF s2 x).1.data.length ((doF s2 x).1.data.map (.int .u8)) ∧ UP w' B p m1 hb1 m2 hb2 ob dv1 dv2 s1 (doF s2 x).2 ∧ Wrote (Both hb1 hb2 dv1 dv2) w w' := by
  obtain ⟨t2, h2⟩ := h.layer
  refine (um_do B m2 hb2 k i dv2 s2 t2 x w h2 hx hO hS hG hk hb hB).mono ?_
  rintro e w' ⟨v, t', rfl, ho, hu, hw⟩
  exact ⟨v, rfl, ho, h.layered hw hu, hw.mono (fun _ _ h => .inr h)⟩
theorem up_base (h : UP w B p m1 hb1 m2 hb2 ob dv1 dv2 s1 s2) (k : Nat) (i : Int) (x : Sx) (hx : x.1.h = 0) (hO : OpU x) (hS : SpkW s1 x) (hG : Good k s1) (hk : k ≤ 1000000) (hb : BytesIn w x.1.da x.1.dl x.1.dc x.2) (hB : B ≤ w.heap.size) :
    Calls Tryd.prog 53 #[.pointer (some ⟨m1, 0, none⟩), .int .i64 i, x.1.val] w fun e w' => ∃ v, e = .returned (ansVal (doF s1 x).1.e (doF s1 x).1.n (doF s1 x).1.off v) ∧ w'.ownsRow w.heap.size 5 1 v (doF s1 x).1.data.length ((doF s1 x).1.data.map (.int .u8)) ∧ UP w' B p m1 hb1 m2 hb2 ob dv1 dv2 (doF s1 x).2 s2 ∧ Wrote (Both hb1 hb2 dv1 dv2) w w' := by
  obtain ⟨t1, h1⟩ := h.base
  refine (um_do B m1 hb1 k i dv1 s1 t1 x w h1 hx hO hS hG hk hb hB).mono ?_
  rintro e w' ⟨v, t', rfl, ho, hu, hw⟩
  exact ⟨v, rfl, ho, h.based hw hu, hw.mono (fun _ _ h => .inl h)⟩
end
end Sb
end Go.Proofs.YtnkhfdnahnphdaaDoor
end
