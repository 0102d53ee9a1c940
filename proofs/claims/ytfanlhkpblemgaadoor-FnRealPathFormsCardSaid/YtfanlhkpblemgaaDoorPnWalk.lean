/- The walks of the path below a path: kind, RealPath. -/
import Derived.Test.YtfanlhkpblemgaaDoorPmWalk
import Derived.Test.YtfanlhkpblemgaaDoorSe
import Derived.LaidEqlPtr
namespace Go.Proofs.YtfanlhkpblemgaaDoor
open Go.ChangeShapes Go.WideShapes Go.ChangeAt Go.RowKit Go.Rd Go.Pt

theorem assert_nil (W : World) : (Instr.typeAssert .nilIface 61 93 true).run Tryd.prog W = .ok (.tuple #[.pointer none, .bool false]) W := by kernel_rfl
theorem assert_err (W : World) (v : Value) : (Instr.typeAssert (.iface 119 v) 61 93 true).run Tryd.prog W = .ok (.tuple #[.pointer none, .bool false]) W := by kernel_rfl
theorem nil_nil (W : World) : (binOp .eql 61 .nilIface .nilIface).run Tryd.prog W = .ok (.bool true) W := by kernel_rfl
theorem err_nil (W : World) (v : Value) : (binOp .eql 61 (.iface 119 v) .nilIface).run Tryd.prog W = .ok (.bool false) W := by kernel_rfl
theorem comp119 : (Tryd.prog.info? 119).map (·.comparable) = some true := by kernel_rfl
theorem size121 : (Tryd.prog.info? 121).map (·.size) = some 1 := by kernel_rfl
theorem err_same (W : World) (a : Addr) : (binOp .eql 61 (.iface 119 (.pointer (some a))) (.iface 119 (.pointer (some a)))).run Tryd.prog W = .ok (.bool true) W := by
  obtain ⟨i, hi, hcmp⟩ := Option.map_eq_some_iff.1 comp119
  obtain ⟨j, hj, _⟩ := Option.map_eq_some_iff.1 size121
  exact run_eql_iface_ptr_same W a Tryd.underlying61 Tryd.underlying119 hi hcmp hj

set_option maxHeartbeats 1000000 in
theorem kind_nil (w : World) : Calls Tryd.prog 30 #[Value.nilIface] w fun e w' => e = .returned (.int .i64 0) ∧ w = w' := by
  have h1 := assert_nil w
  have h2 := nil_nil w
  go_enter Tryd.func30, Tryd.ntmps30
  go_wp2
  go_ret
  exact ⟨rfl, rfl⟩

set_option maxHeartbeats 1000000 in
theorem kind_gone (w : World) (a : Addr) (h3 : w.cell? ⟨3, 0, none⟩ = some (.iface 119 (.pointer (some a)))) : Calls Tryd.prog 30 #[.iface 119 (.pointer (some a))] w fun e w' => e = .returned (.int .i64 1) ∧ w = w' := by
  have h1 := assert_err w (.pointer (some a))
  have h2 := err_nil w (.pointer (some a))
  have h4 := err_same w a
  go_enter Tryd.func30, Tryd.ntmps30
  go_wp2
  go_ret
  exact ⟨rfl, rfl⟩

theorem join_cells (D n : ByteArray) (w1 : World) : ∀ (j : Nat) (x : ByteArray), [D, n][j]? = some x → (w1.alloc (Obj.cells #[Value.string D, Value.string n] 9)).cell? ⟨w1.heap.size, 0 + j, none⟩ = some (Value.string x) := by
  intro j x h
  rw [cell_of (alloc_new _ _)]
  match j, h with
  | 0, h => simp at h; subst h; rfl
  | 1, h => simp at h; subst h; rfl
  | j + 2, h => simp at h
theorem path_two (D n J : ByteArray) (w1 : World) (hJ : Hid (strB (Go.Lib.Pa.join [D.data.toList, n.data.toList]) = J)) (hd : D.size ≤ 1500) (hn : n.size ≤ 1500) :
    Calls Tryd.prog 43 #[.slice (some ⟨w1.heap.size, 0, none⟩) 2 2] (w1.alloc (Obj.cells #[Value.string D, Value.string n] 9)) fun e w' => e = .returned (.string J) ∧ Below (w1.alloc (Obj.cells #[Value.string D, Value.string n] 9)).heap.size (w1.alloc (Obj.cells #[Value.string D, Value.string n] 9)) w' := by
  refine (Tryd.path_Join_rules w1.heap.size 0 2 [D, n] _ (join_cells D n w1) (lt_of_heap (alloc_new _ _)) ?_).mono ?_
  · have e1 := size_of D
    have e2 := size_of n
    simp only [Go.Lib.Pa.lens, List.map_cons, List.map_nil, List.sum_cons, List.sum_nil, List.length_cons, List.length_nil]
    omega
  · rintro e w' ⟨rfl, hb⟩
    exact ⟨by rw [← hJ.out]; rfl, hb⟩

set_option maxHeartbeats 1000000 in
theorem base_real (p n : ByteArray) (w : World) (b : Nat) (v : Value) (a : Addr) (hb0 : w.heap[b]? = some (.cells #[v, .string p] 90 (0, 0))) (h3 : w.cell? ⟨3, 0, none⟩ = some (.iface 119 (.pointer (some a)))) (h3w : 3 < w.heap.size)
    (hp : p.size ≤ 1000) (hn : n.size ≤ 1000) (D J R : ByteArray) (q : Bool) (hD : Hid (strB (Go.Lib.Pa.cleanEls p.data.toList) = D)) (hJ : Hid (strB (Go.Lib.Pa.join [D.data.toList, n.data.toList]) = J)) (hR : Hid (strB (Go.Lib.Pa.cleanEls J.data.toList) = R)) (hq : Hid (Lib.hasPrefix R.data.toList D.data.toList = q))
    (hd : D.size ≤ 1500) (hj : J.size ≤ 4000) :
    Calls Tryd.prog 29 #[.pointer (some ⟨b, 0, none⟩), .string n] w fun e w' => e = .returned (.tuple #[.string (if q then R else n), if q then Value.nilIface else .iface 119 (.pointer (some a))]) ∧ Below w.heap.size w w' := by
  have hc : w.cell? ⟨b, 1, none⟩ = some (.string p) := (cell_of hb0 1).trans rfl
  cases q with
  | true =>
    go_enter Tryd.func29, Tryd.ntmps29
    go_wp2_with (go_at_call 42; refine (Tryd.path_Clean_rules _ _ (by omega)).mono ?_; rw [show (⟨(Go.Lib.Pa.cleanEls p.data.toList).toArray⟩ : ByteArray) = D from hD.out]; rintro e w1 ⟨rfl, hb1⟩)
    go_wp2_with (go_at_call 43; refine (path_two D n J w1 hJ hd (by omega)).mono ?_; rintro e w2 ⟨rfl, hb2⟩)
    go_wp2_with (go_at_call 42; refine (Tryd.path_Clean_rules _ _ (by omega)).mono ?_; rw [show (⟨(Go.Lib.Pa.cleanEls J.data.toList).toArray⟩ : ByteArray) = R from hR.out]; rintro e w3 ⟨rfl, hb3⟩)
    have hA := (hb1.alloc hb1.size (Obj.cells #[Value.string D, Value.string n] 9))
    have hB := hA.trans ((hb2.mono hA.size).trans (hb3.mono (Nat.le_trans hA.size hb2.size)))
    go_wp2_with (go_at_call 44; refine (Tryd.strings_HasPrefix _ _ _).mono ?_; rw [hq.out]; rintro e w4 ⟨rfl, rfl⟩)
    go_ret2
    exact ⟨rfl, hB⟩
  | false =>
    go_enter Tryd.func29, Tryd.ntmps29
    go_wp2_with (go_at_call 42; refine (Tryd.path_Clean_rules _ _ (by omega)).mono ?_; rw [show (⟨(Go.Lib.Pa.cleanEls p.data.toList).toArray⟩ : ByteArray) = D from hD.out]; rintro e w1 ⟨rfl, hb1⟩)
    go_wp2_with (go_at_call 43; refine (path_two D n J w1 hJ hd (by omega)).mono ?_; rintro e w2 ⟨rfl, hb2⟩)
    go_wp2_with (go_at_call 42; refine (Tryd.path_Clean_rules _ _ (by omega)).mono ?_; rw [show (⟨(Go.Lib.Pa.cleanEls J.data.toList).toArray⟩ : ByteArray) = R from hR.out]; rintro e w3 ⟨rfl, hb3⟩)
    have hA := (hb1.alloc hb1.size (Obj.cells #[Value.string D, Value.string n] 9))
    have hB := hA.trans ((hb2.mono hA.size).trans (hb3.mono (Nat.le_trans hA.size hb2.size)))
    have h3' : w3.cell? ⟨3, 0, none⟩ = some (.iface 119 (.pointer (some a))) := (hB.cell (p := ⟨3, 0, none⟩) h3w).trans h3
    go_wp2_with (go_at_call 44; refine (Tryd.strings_HasPrefix _ _ _).mono ?_; rw [hq.out]; rintro e w4 ⟨rfl, rfl⟩)
    go_quiet (fail)
    go_wp2
    go_ret2
    exact ⟨rfl, below_drewN hB nq⟩

theorem new_mem (w : World) : Calls Tryd.prog 28 #[] w fun e w' => ∃ b, e = .returned (.pointer (some ⟨b, 0, none⟩)) ∧ Below w.heap.size w w' := by
  go_enter Tryd.func28, Tryd.ntmps28
  go_wp2
  go_ret
  exact ⟨_, rfl, (Below.refl w.heap.size w).alloc (Nat.le_refl _) _⟩
theorem new_base (m : Nat) (p : ByteArray) (w : World) : Calls Tryd.prog 27 #[.pointer (some ⟨m, 0, none⟩), .string p] w fun e w' => ∃ b, e = .returned (.pointer (some ⟨b, 0, none⟩)) ∧ w'.heap[b]? = some (.cells #[.pointer (some ⟨m, 0, none⟩), .string p] 90 (0, 0)) ∧ Below w.heap.size w w' := by
  go_enter Tryd.func27, Tryd.ntmps27
  go_wp2
  go_ret
  exact ⟨_, rfl, alloc_new _ _, (Below.refl w.heap.size w).alloc (Nat.le_refl _) _⟩

set_option maxHeartbeats 1000000 in
theorem impl_real (p n : ByteArray) (w : World) (a : Addr) (h3 : w.cell? ⟨3, 0, none⟩ = some (.iface 119 (.pointer (some a)))) (h3w : 3 < w.heap.size)
    (hp : p.size ≤ 1000) (hn : n.size ≤ 1000) (D J R : ByteArray) (q : Bool) (hD : Hid (strB (Go.Lib.Pa.cleanEls p.data.toList) = D)) (hJ : Hid (strB (Go.Lib.Pa.join [D.data.toList, n.data.toList]) = J)) (hR : Hid (strB (Go.Lib.Pa.cleanEls J.data.toList) = R)) (hq : Hid (Lib.hasPrefix R.data.toList D.data.toList = q))
    (hd : D.size ≤ 1500) (hj : J.size ≤ 4000) :
    Calls Tryd.prog 10 #[.string p, .string n] w fun e w' => e = .returned (.tuple #[.string (if q then R else n), .int .i64 (if q then 0 else 1)]) ∧ Below w.heap.size w w' := by
    cases q with
  | true =>
    go_enter Tryd.func10, Tryd.ntmps10
    go_wp2_with (go_at_call 28; refine (new_mem _).mono ?_; rintro e w1 ⟨m, rfl, hb1⟩)
    go_wp2_with (go_at_call 27; refine (new_base m _ _).mono ?_; rintro e w2 ⟨b, rfl, hb0, hb2⟩)
    have hB := hb1.trans (hb2.mono hb1.size)
    have h3' := (hB.cell (p := ⟨3, 0, none⟩) h3w).trans h3
    go_wp2_with (go_at_call 29; refine (base_real p n _ _ _ a hb0 h3' (Nat.lt_of_lt_of_le h3w hB.size) hp hn D J R _ hD hJ hR hq hd hj).mono ?_; rintro e w3 ⟨rfl, hb3⟩)
    have hC := hB.trans (hb3.mono hB.size)
    have h3'' := (hC.cell (p := ⟨3, 0, none⟩) h3w).trans h3
    go_wp2_with (go_at_call 30; refine (kind_nil _).mono ?_; rintro e w4 ⟨rfl, rfl⟩)
    go_ret2
    exact ⟨rfl, hC⟩
  | false =>
    go_enter Tryd.func10, Tryd.ntmps10
    go_wp2_with (go_at_call 28; refine (new_mem _).mono ?_; rintro e w1 ⟨m, rfl, hb1⟩)
    go_wp2_with (go_at_call 27; refine (new_base m _ _).mono ?_; rintro e w2 ⟨b, rfl, hb0, hb2⟩)
    have hB := hb1.trans (hb2.mono hb1.size)
    have h3' := (hB.cell (p := ⟨3, 0, none⟩) h3w).trans h3
    go_wp2_with (go_at_call 29; refine (base_real p n _ _ _ a hb0 h3' (Nat.lt_of_lt_of_le h3w hB.size) hp hn D J R _ hD hJ hR hq hd hj).mono ?_; rintro e w3 ⟨rfl, hb3⟩)
    have hC := hB.trans (hb3.mono hB.size)
    have h3'' := (hC.cell (p := ⟨3, 0, none⟩) h3w).trans h3
    go_wp2_with (go_at_call 30; refine (kind_gone _ a h3'').mono ?_; rintro e w4 ⟨rfl, rfl⟩)
    go_ret2
    exact ⟨rfl, hC⟩
end Go.Proofs.YtfanlhkpblemgaaDoor
