/- The walk of Read at the end and beyond it, and of a step that reads. -/
import Derived.Test.YtnkhfdnahnphdaaDoorReWalk
import Derived.Test.YtnkhfdnahnphdaaDoorTsWalk
namespace Go.Proofs.YtnkhfdnahnphdaaDoor
open Go.ChangeShapes Go.WideShapes Go.ChangeAt Go.RowKit Go.Rd
set_option linter.unusedVariables false
open Go.Proofs.YtnkhfdnahnphdaaDoorW.PrintWords Go.Proofs.YtnkhfdnahnphdaaDoorW.PrintLast Go.Proofs.YtnkhfdnahnphdaaDoorW.PrintMore

/-- Nothing but draws. -/
def Drew (w w' : World) : Prop := ∃ n, w' = w.drewN n
theorem Drew.mk2 (w : World) (a b : Nat) : Drew w ((w.drewN a).drewN b) := ⟨a + b, by rw [World.drewN_drewN]⟩
theorem Drew.mk3 (w : World) (a b c : Nat) : Drew w (((w.drewN a).drewN b).drewN c) := ⟨a + (b + c), by rw [World.drewN_drewN, World.drewN_drewN]⟩

set_option maxRecDepth 100000 in
set_option maxHeartbeats 2000000 in
theorem read_end (A : Option Addr) (m c : Nat) (f B S fd : Nat) (rdc : Int) (ro : Bool) (ad : Nat → Addr) (dv : Value) (d : FD) (w : World) (hS : Sents S w ad) 
    (hH : HandleIs w f ⟨(d.bs.length : Int), rdc, false, ro, fd⟩) (hD : DataIs w B fd dv d) (hm : 0 < m) (hm2 : m ≤ 4294967296) (hl : d.bs.length ≤ 4294967296) :
    Calls Tryd.prog 33 #[.pointer (some ⟨f, 0, none⟩), .slice A m c] w fun e w' => e = .returned (.tuple #[.int .i64 0, .iface 149 (.pointer (some (ad 1)))]) ∧ Drew w w' := by
  obtain ⟨Ad, cd, rfl⟩ := hD.slice
  have c0 := (cell_of hH 0).trans rfl
  have c2 := (cell_of hH 2).trans rfl
  have c4 := (cell_of hH 4).trans rfl
  have d1 := (cell_of hD.1 1).trans rfl
  have s1 := hS.cell 1 (by decide)
  have hlt' : decide (0 < m) = true := decide_eq_true hm
  have e1 : ((d.bs.length : Int) == (d.bs.length : Int)) = true := by simp
  go_enter Tryd.func33, Tryd.ntmps33
  go_wp2_with fail
  go_quiet (fail)
  go_wp2_with fail
  go_quiet (fail)
  go_wp2_with fail
  go_ret2
  first | exact ⟨rfl, Drew.mk2 _ _ _⟩ | exact ⟨rfl, Drew.mk3 _ _ _ _⟩

set_option maxRecDepth 100000 in
set_option maxHeartbeats 2000000 in
theorem read_beyond (A : Option Addr) (m c : Nat) (f B S fd a : Nat) (rdc : Int) (ro : Bool) (ad : Nat → Addr) (dv : Value) (d : FD) (w : World) (hS : Sents S w ad) 
    (hH : HandleIs w f ⟨(a : Int), rdc, false, ro, fd⟩) (hD : DataIs w B fd dv d) (hm2 : m ≤ 4294967296) (hl : d.bs.length < a) (ha : a ≤ 1152921504606846976) :
    Calls Tryd.prog 33 #[.pointer (some ⟨f, 0, none⟩), .slice A m c] w fun e w' => e = .returned (.tuple #[.int .i64 0, .iface 149 (.pointer (some (ad 2)))]) ∧ Drew w w' := by
  obtain ⟨Ad, cd, rfl⟩ := hD.slice
  have c0 := (cell_of hH 0).trans rfl
  have c2 := (cell_of hH 2).trans rfl
  have c4 := (cell_of hH 4).trans rfl
  have d1 := (cell_of hD.1 1).trans rfl
  have s1 := hS.cell 2 (by decide)
  have e1 : ((a : Int) == (d.bs.length : Int)) = false := beq_eq_false_iff_ne.2 (by omega)
  by_cases hm : 0 < m
  · have hlt' : decide (0 < m) = true := decide_eq_true hm
    go_enter Tryd.func33, Tryd.ntmps33
    go_wp2_with fail
    go_quiet (fail)
    go_wp2_with fail
    go_quiet (fail)
    go_wp2_with fail
    go_quiet (fail)
    go_wp2_with fail
    go_ret2
    first | exact ⟨rfl, Drew.mk2 _ _ _⟩ | exact ⟨rfl, Drew.mk3 _ _ _ _⟩
  · have hlt' : decide (0 < m) = false := decide_eq_false hm
    go_enter Tryd.func33, Tryd.ntmps33
    go_wp2_with fail
    go_quiet (fail)
    go_wp2_with fail
    go_quiet (fail)
    go_wp2_with fail
    go_quiet (fail)
    go_wp2_with fail
    go_ret2
    first | exact ⟨rfl, Drew.mk2 _ _ _⟩ | exact ⟨rfl, Drew.mk3 _ _ _ _⟩

set_option maxRecDepth 100000 in
set_option maxHeartbeats 2000000 in
theorem kind_eof (B : Nat) (ad : Nat → Addr) (w : World) (hS : Sents B w ad) : Calls Tryd.prog 46 #[.iface 149 (.pointer (some (ad 1)))] w fun e w' => e = .returned (.int .i64 4) ∧ w = w' := by
  have c0 := hS.cell 0 (by decide)
  have c1 := hS.cell 1 (by decide)
  have c4 := hS.cell 4 (by decide)
  have c5 := hS.cell 5 (by decide)
  have c7 := hS.cell 7 (by decide)
  have n4 := err_ne (W := w) (hS.ne 1 4 (by decide) (by decide) (by decide)) (hS.blk 1 (by decide)) (hS.blk 4 (by decide))
  have n7 := err_ne (W := w) (hS.ne 1 7 (by decide) (by decide) (by decide)) (hS.blk 1 (by decide)) (hS.blk 7 (by decide))
  have n5 := err_ne (W := w) (hS.ne 1 5 (by decide) (by decide) (by decide)) (hS.blk 1 (by decide)) (hS.blk 5 (by decide))
  have n0 := err_ne (W := w) (hS.ne 1 0 (by decide) (by decide) (by decide)) (hS.blk 1 (by decide)) (hS.blk 0 (by decide))
  have n3 := err_eq w (ad 1)
  have a1 := assert_err w (.pointer (some (ad 1)))
  have a2 := err_nil w (.pointer (some (ad 1)))
  go_enter Tryd.func46, Tryd.ntmps46
  go_wp2
  go_ret
  exact ⟨rfl, rfl⟩

set_option maxRecDepth 100000 in
set_option maxHeartbeats 2000000 in
theorem kind_unexp (B : Nat) (ad : Nat → Addr) (w : World) (hS : Sents B w ad) : Calls Tryd.prog 46 #[.iface 149 (.pointer (some (ad 2)))] w fun e w' => e = .returned (.int .i64 5) ∧ w = w' := by
  have c0 := hS.cell 0 (by decide)
  have c1 := hS.cell 1 (by decide)
  have c2 := hS.cell 2 (by decide)
  have c4 := hS.cell 4 (by decide)
  have c5 := hS.cell 5 (by decide)
  have c7 := hS.cell 7 (by decide)
  have n4 := err_ne (W := w) (hS.ne 2 4 (by decide) (by decide) (by decide)) (hS.blk 2 (by decide)) (hS.blk 4 (by decide))
  have n7 := err_ne (W := w) (hS.ne 2 7 (by decide) (by decide) (by decide)) (hS.blk 2 (by decide)) (hS.blk 7 (by decide))
  have n5 := err_ne (W := w) (hS.ne 2 5 (by decide) (by decide) (by decide)) (hS.blk 2 (by decide)) (hS.blk 5 (by decide))
  have n0 := err_ne (W := w) (hS.ne 2 0 (by decide) (by decide) (by decide)) (hS.blk 2 (by decide)) (hS.blk 0 (by decide))
  have n1 := err_ne (W := w) (hS.ne 2 1 (by decide) (by decide) (by decide)) (hS.blk 2 (by decide)) (hS.blk 1 (by decide))
  have n3 := err_eq w (ad 2)
  have a1 := assert_err w (.pointer (some (ad 2)))
  have a2 := err_nil w (.pointer (some (ad 2)))
  go_enter Tryd.func46, Tryd.ntmps46
  go_wp2
  go_ret
  exact ⟨rfl, rfl⟩

theorem below4 (w : World) (o1 o2 o3 o4 : Obj) : Below w.heap.size w ((((w.alloc o1).alloc o2).alloc o3).alloc o4) := (below3 w o1 o2 o3).alloc (by simp; omega) o4
theorem second_new4 (w : World) (o1 o2 o3 o4 : Obj) : ((((w.alloc o1).alloc o2).alloc o3).alloc o4).heap[w.heap.size + 1]? = some o2 := alloc_keeps (second_new _ _ _ _) _
theorem third_new4 (w : World) (o1 o2 o3 o4 : Obj) : ((((w.alloc o1).alloc o2).alloc o3).alloc o4).heap[w.heap.size + 1 + 1]? = some o3 := alloc_keeps (third_new _ _ _ _) _
theorem fourth_new (w : World) (o1 o2 o3 o4 : Obj) : ((((w.alloc o1).alloc o2).alloc o3).alloc o4).heap[w.heap.size + 1 + 1 + 1]? = some o4 := by
  have h := alloc_new (((w.alloc o1).alloc o2).alloc o3) o4
  simpa using h

/-- What a read leaves in the bytes' block. -/
def GotIn (w' : World) (g m : Nat) (r : List Int) : Prop := ∃ cur : Array Value, w'.heap[g]? = some (.cells cur 5 (0, 0)) ∧ cur.size = m ∧ ∀ (j : Nat) (u : Value), (r.map (Value.int .u8))[j]? = some u → cur[j]? = some u
theorem GotIn.set {w : World} {g m : Nat} {r : List Int} (h : GotIn w g m r) {p : Addr} (hp : g ≠ p.block) (u : Value) : GotIn (w.setCell p u) g m r := by
  obtain ⟨cur, h1, h2, h3⟩ := h
  exact ⟨cur, setCell_keeps h1 hp u, h2, h3⟩
theorem GotIn.lt {w : World} {g m : Nat} {r : List Int} (h : GotIn w g m r) : g < w.heap.size := by
  obtain ⟨cur, h1, _⟩ := h
  exact lt_of_heap h1
theorem GotIn.bytes {w : World} {g m n : Nat} {r : List Int} (h : GotIn w g m r) (hn : r.length = n) (hnm : n ≤ m) (hm : m ≤ 1000000) (hf : ∀ x ∈ r, 0 ≤ x ∧ x ≤ 255) : BytesIn w (some ⟨g, 0, none⟩) n m r := by
  obtain ⟨cur, h1, h2, h3⟩ := h
  refine ⟨hn, fun e => (by cases e), hnm, by unfold maxLen; omega, fun x hx j u hu => ?_, hf⟩
  cases hx
  rw [addr_add, Nat.zero_add, cell_of h1 j]
  exact h3 j u hu
/-- No error, or one of the laid ones, which are there. -/
def SentOr (errv : Value) (S : Nat) (W : World) (ad : Nat → Addr) : Prop := errv = .nilIface ∨ Sents S W ad
theorem SentOr.set {errv : Value} {S : Nat} {W : World} {ad : Nat → Addr} (h : SentOr errv S W ad) {p : Addr} (hp : S ≤ p.block) (u : Value) : SentOr errv S (W.setCell p u) ad := by
  rcases h with h | h
  · exact .inl h
  · exact .inr (h.below ((Below.refl _ _).setCell hp u))
/-- What reading into m bytes does, wherever the file lies. -/
def ReadsTo (f B fd m S : Nat) (h h' : FH) (errv : Value) (r : List Int) (dv : Value) (d : FD) (ad : Nat → Addr) : Prop :=
  ∀ (W : World) (g : Nat) (cur : Array Value), cur.size = m → W.heap[g]? = some (.cells cur 5 (0, 0)) → g ≠ f → g ≠ fd → (∀ k, dv.ownBlock = some k → k ≠ g) → HandleIs W f h → DataIs W B fd dv d → Sents S W ad →
    Calls Tryd.prog 33 #[.pointer (some ⟨f, 0, none⟩), .slice (some ⟨g, 0, none⟩) m m] W fun e w' => e = .returned (.tuple #[.int .i64 (r.length : Int), errv]) ∧ HandleIs w' f h' ∧ DataIs w' B fd dv d ∧ GotIn w' g m r ∧ Wrote (fun k => k = f ∨ k = g) W w' ∧ SentOr errv S w' ad
def KindIs (S : Nat) (ad : Nat → Addr) (errv : Value) (E : Int) : Prop := ∀ W, SentOr errv S W ad → Calls Tryd.prog 46 #[errv] W fun e w' => e = .returned (.int .i64 E) ∧ W = w'
/-- The file's data stay where they are. -/
def LaidS (w wx : World) (f B fd : Nat) (h : FH) (dv : Value) (d : FD) : Prop :=
  HandleIs wx f h ∧ DataIs wx B fd dv d ∧ Wrote (fun k => k = f ∨ k = fd ∨ dv.ownBlock = some k) w wx
theorem LaidS.set {w wx : World} {f B fd : Nat} {h : FH} {dv : Value} {d : FD} (hl : LaidS w wx f B fd h dv d) {p : Addr} {t : TypeId} (ht : Typed wx p.block t) (h1 : t ≠ tFH) (h2 : t ≠ tFD) (h3 : t ≠ tU8) (hn : w.heap.size ≤ p.block) (u : Value) : LaidS w (wx.setCell p u) f B fd h dv d := by
  obtain ⟨hH, hD, hW⟩ := hl
  obtain ⟨c, fr, hc⟩ := ht
  have e1 : f ≠ p.block := blk_ne hH hc h1.symm
  have e2 : fd ≠ p.block := blk_ne hD.1 hc h2.symm
  refine ⟨hH.set e1 u, ⟨setCell_keeps hD.1 e2 u, own_move hD.2.1 (fun k hk => Below.heap_setCell _ _ _ _ (fun e => ?_)), hD.2.2⟩, wrote_new hW hn u⟩
  obtain ⟨c', hc'⟩ := own_typed hD.2.1 k hk
  exact blk_ne hc' hc h3.symm e
/-- A step that reads. -/
def ReadStep (w : World) (f B fd n : Nat) (h' : FH) (E : Int) (r : List Int) (dv : Value) (d : FD) (e : Ending) (w' : World) : Prop :=
  ∃ A c, e = .returned (ansVal E 0 0 (.slice A n c)) ∧ BytesIn w' A n c r ∧ (∀ y, A = some y → w.heap.size ≤ y.block ∧ y.block < w'.heap.size) ∧ LaidS w w' f B fd h' dv d

set_option maxRecDepth 100000 in
set_option maxHeartbeats 2000000 in
theorem on_read_gen (f B fd m n S : Nat) (h h' : FH) (E : Int) (errv : Value) (r : List Int) (dv : Value) (d : FD) (ad : Nat → Addr) (s : Stp) (w : World) (hop : s.op = 12) (hn : s.n = (m : Int)) (hH : HandleIs w f h) (hD : DataIs w B fd dv d) (hm : m ≤ 1000000) (hB : B ≤ w.heap.size)
    (hS : Sents S w ad) (hSw : S ≤ w.heap.size) (hR : ReadsTo f B fd m S h h' errv r dv d ad) (hK : KindIs S ad errv E) (hrl : r.length = n) (hnm : n ≤ m) (hfit : ∀ x ∈ r, 0 ≤ x ∧ x ≤ 255) :
    Calls Tryd.prog 23 #[.pointer (some ⟨f, 0, none⟩), s.val] w (ReadStep w f B fd n h' E r dv d) := by
  obtain ⟨op, name, other, flag, perm, hh, da, dl, dc, off, wh, n0⟩ := s
  simp only at hop hn
  subst hop hn
  unfold Stp.val
  simp only
  have hfl : f < w.heap.size := lt_of_heap hH
  have hfdl : fd < w.heap.size := lt_of_heap hD.1
  have hrow := own_lt hD.2.1
  have HRL := Lib.hid hrl
  have HR := Lib.hid hR
  have HK := Lib.hid hK
  clear hrl hR hK
  obtain ⟨i0, hi, hzz⟩ := Option.map_eq_some_iff.1 infoU8
  simp only [Prod.mk.injEq] at hzz
  rcases Nat.eq_zero_or_pos m with rfl | hpos
  · obtain ⟨Z, hZ, hZs, hmk⟩ := make_run (P := Tryd.prog) (t := 22) Tryd.underlying22 hi hzz.1 0 (by omega) (by unfold maxLen; omega)
    have hZm : Z.size = 0 := by rw [hZs, hzz.2.1]
    have HZ := Lib.hid hZm
    have hmk0 : ∀ W : World, (Instr.makeSlice 22 (.int .i64 0) (.int .i64 0)).run Tryd.prog W = .ok (.slice (some ⟨W.heap.size, 0, none⟩) 0 0) (W.alloc (.cells Z 5)) := hmk
    clear hmk hZ hZs hzz hi hZm
    obtain rfl : n = 0 := by omega
    go_enter Tryd.func23, Tryd.ntmps23
    go_wp2_with fail
    refine (HR.out _ _ Z HZ.out (fourth_new _ _ _ _ _) (by omega) (by omega) (fun k hk => by have := hrow k hk; omega) (hH.below (below4 _ _ _ _ _)) (hD.below (below4 _ _ _ _ _)) (hS.below ((below4 _ _ _ _ _).mono hSw))).mono ?_
    rw [HRL.out]
    rintro e w4 ⟨rfl, hH4, hD4, hG4, hW4, hS4⟩
    have hWw : Wrote (fun k => k = f ∨ k = fd ∨ dv.ownBlock = some k) w w4 := ((Wrote.of_below (S := fun k => k = f ∨ k = w.heap.size + 1 + 1 + 1) (below4 w _ _ _ _)).trans hW4).mono (fun k hk e => by
      rcases e with e | e
      · exact .inl e
      · omega)
    have k1 := (hW4.block _ (by simp <;> omega) (by omega)).trans (second_new4 _ _ _ _ _)
    have k2 := (hW4.block _ (by simp <;> omega) (by omega)).trans (third_new4 _ _ _ _ _)
    have HS4 := Lib.hid hS4
    clear hS4
    obtain ⟨⟨p0, p1, p2, p3, p4, p5⟩, q0, q1, q2, q3, q4, q5⟩ := cells6 k1
    obtain ⟨⟨r0, r1, r2, r3, r4, r5⟩, t0, t1, t2, t3, t4, t5⟩ := cells6 k2
    have T1 := Typed.of k1
    have T2 := Typed.of k2
    clear k1 k2
    go_wp2_with (go_at_call 46; refine (HK.out _ (HS4.out.set (by simp only []; omega) _)).mono ?_; rintro e w5 ⟨rfl, rfl⟩)
    refine bodyPost_ret (v := ansVal E 0 0 (.slice (some ⟨w.heap.size + 1 + 1 + 1, 0, none⟩) 0 0)) (by simp [results, Tryd.results23, go_sem, ansVal, p0, p1, p2, p3, p4, p5]) rfl ⟨_, _, rfl, ?_, ?_, ?_⟩
    · refine GotIn.bytes ?_ HRL.out (Nat.le_refl _) (by omega) hfit
      · repeat (first | with_reducible exact hG4 | (with_reducible refine GotIn.set ?_ ?_ _; rotate_left; (simp only []; omega)))
    · intro y hy
      cases hy
      refine ⟨by simp only []; omega, ?_⟩
      refine GotIn.lt (m := 0) (r := r) ?_
      repeat (first | with_reducible exact hG4 | (with_reducible refine GotIn.set ?_ ?_ _; rotate_left; (simp only []; omega)))
    · have hL4 : LaidS w w4 f B fd h' dv d := ⟨hH4, hD4, hWw⟩
      repeat (first | with_reducible exact hL4 | (with_reducible refine LaidS.set (t := 42) ?_ ?_ (by decide) (by decide) (by decide) ?_ _; rotate_left; (repeat (first | with_reducible exact T1 | with_reducible exact T2 | with_reducible refine Typed.set ?_ _ _)); (simp only []; omega)))
  · obtain ⟨Z, hZ, hZs, hmk⟩ := make_run (P := Tryd.prog) (t := 22) Tryd.underlying22 hi hzz.1 m (by rw [hzz.2.2]; omega) (by unfold maxLen; omega)
    have hZm : Z.size = m := by rw [hZs, hzz.2.1]; omega
    have HZ := Lib.hid hZm
    clear hZ hZs hzz hi hZm
    go_enter Tryd.func23, Tryd.ntmps23
    go_wp2_with fail
    refine (HR.out _ _ Z HZ.out (fourth_new _ _ _ _ _) (by omega) (by omega) (fun k hk => by have := hrow k hk; omega) (hH.below (below4 _ _ _ _ _)) (hD.below (below4 _ _ _ _ _)) (hS.below ((below4 _ _ _ _ _).mono hSw))).mono ?_
    rw [HRL.out]
    rintro e w4 ⟨rfl, hH4, hD4, hG4, hW4, hS4⟩
    have hWw : Wrote (fun k => k = f ∨ k = fd ∨ dv.ownBlock = some k) w w4 := ((Wrote.of_below (S := fun k => k = f ∨ k = w.heap.size + 1 + 1 + 1) (below4 w _ _ _ _)).trans hW4).mono (fun k hk e => by
      rcases e with e | e
      · exact .inl e
      · omega)
    have k1 := (hW4.block _ (by simp <;> omega) (by omega)).trans (second_new4 _ _ _ _ _)
    have k2 := (hW4.block _ (by simp <;> omega) (by omega)).trans (third_new4 _ _ _ _ _)
    have HS4 := Lib.hid hS4
    clear hS4
    obtain ⟨⟨p0, p1, p2, p3, p4, p5⟩, q0, q1, q2, q3, q4, q5⟩ := cells6 k1
    obtain ⟨⟨r0, r1, r2, r3, r4, r5⟩, t0, t1, t2, t3, t4, t5⟩ := cells6 k2
    have T1 := Typed.of k1
    have T2 := Typed.of k2
    clear k1 k2
    go_wp2_with (go_at_call 46; refine (HK.out _ (HS4.out.set (by simp only []; omega) _)).mono ?_; rintro e w5 ⟨rfl, rfl⟩)
    refine bodyPost_ret (v := ansVal E 0 0 (.slice (some ⟨w.heap.size + 1 + 1 + 1, 0, none⟩) n m)) (by simp [results, Tryd.results23, go_sem, ansVal, p0, p1, p2, p3, p4, p5]) rfl ⟨_, _, rfl, ?_, ?_, ?_⟩
    · refine GotIn.bytes ?_ HRL.out hnm (by omega) hfit
      · repeat (first | with_reducible exact hG4 | (with_reducible refine GotIn.set ?_ ?_ _; rotate_left; (simp only []; omega)))
    · intro y hy
      cases hy
      refine ⟨by simp only []; omega, ?_⟩
      refine GotIn.lt (m := m) (r := r) ?_
      repeat (first | with_reducible exact hG4 | (with_reducible refine GotIn.set ?_ ?_ _; rotate_left; (simp only []; omega)))
    · have hL4 : LaidS w w4 f B fd h' dv d := ⟨hH4, hD4, hWw⟩
      repeat (first | with_reducible exact hL4 | (with_reducible refine LaidS.set (t := 42) ?_ ?_ (by decide) (by decide) (by decide) ?_ _; rotate_left; (repeat (first | with_reducible exact T1 | with_reducible exact T2 | with_reducible refine Typed.set ?_ _ _)); (simp only []; omega)))

theorem sentOr_nil {S : Nat} {ad : Nat → Addr} : KindIs S ad .nilIface 0 := fun W _ => kind_nil W
theorem kindIs_eof {S : Nat} {ad : Nat → Addr} : KindIs S ad (.iface 149 (.pointer (some (ad 1)))) 4 := fun W h => by
  rcases h with h | h
  · cases h
  · exact kind_eof S ad W h
theorem kindIs_unexp {S : Nat} {ad : Nat → Addr} : KindIs S ad (.iface 149 (.pointer (some (ad 2)))) 5 := fun W h => by
  rcases h with h | h
  · cases h
  · exact kind_unexp S ad W h
/-- What a read tells. -/
def readE (bs : List Int) (a m : Nat) : Int := if bs.length < a then 5 else if 0 < m ∧ a = bs.length then 4 else 0
def readBs (bs : List Int) (a m : Nat) : List Int := (bs.drop a).take m
theorem HandleIs.drewN {w : World} {f : Nat} {h : FH} (hh : HandleIs w f h) (n : Nat) : HandleIs (w.drewN n) f h := hh
theorem DataIs.drewN {w : World} {B fd : Nat} {dv : Value} {d : FD} (hd : DataIs w B fd dv d) (n : Nat) : DataIs (w.drewN n) B fd dv d := hd.below (pw_below_drewN (Below.refl _ _) n)

theorem okE_read (s : St) (x : Stp) (b : List Int) (a m : Nat) (hcl : s.cl = false) (hop : x.op = 12) (hat : s.at_ = (a : Int)) (hn : x.n = (m : Int)) (hm : m ≤ 1000000) (hl : s.bs.length ≤ 4294967296) (ha : a ≤ 1152921504606846976) (hf : ∀ c ∈ s.bs, 0 ≤ c ∧ c ≤ 255) :
    StepOkE s (x, b) ⟨readE s.bs a m, 0, 0, readBs s.bs a m⟩ { s with at_ := (a : Int) + (readBs s.bs a m).length } := by
  obtain ⟨at_, cl, ro, bs⟩ := s
  simp only at hcl hat hl hf ⊢
  subst hcl hat
  rintro w f B fd dv hH hD hb hB ⟨ad, hS⟩
  have hfit : ∀ c ∈ readBs bs a m, 0 ≤ c ∧ c ≤ 255 := fun c hc => hf c (List.mem_of_mem_drop (List.mem_of_mem_take hc))
  have hnm : (readBs bs a m).length ≤ m := by simp [readBs]; omega
  have key : ∃ errv, ReadsTo f B fd m B (St.fh ⟨(a : Int), false, ro, bs⟩ fd) (St.fh ⟨(a : Int) + (readBs bs a m).length, false, ro, bs⟩ fd) errv (readBs bs a m) dv (St.fd ⟨(a : Int), false, ro, bs⟩) ad ∧ KindIs B ad errv (readE bs a m) := by
    by_cases h1 : bs.length < a
    · have e0 : readBs bs a m = [] := by unfold readBs; rw [List.drop_eq_nil_of_le (by omega)]; simp
      rw [e0]
      unfold readE
      rw [if_pos h1]
      refine ⟨_, ?_, kindIs_unexp⟩
      intro W g cur hc hg h2 h3 h4 h5 h6 h7
      refine (read_beyond _ m m f B B fd a 0 ro ad dv _ W h7 h5 h6 (by omega) h1 ha).mono ?_
      rintro e w' ⟨rfl, n, rfl⟩
      refine ⟨rfl, ?_, h6.drewN n, ⟨cur, hg, hc, fun j u hu => by simp at hu⟩, (Wrote.refl _ _).drewN n, .inr (h7.below (pw_below_drewN (Below.refl _ _) n))⟩
      simpa [St.fh] using h5.drewN n
    · by_cases h0 : 0 < m ∧ a = bs.length
      · obtain ⟨h0, rfl⟩ := h0
        have e0 : readBs bs bs.length m = [] := by unfold readBs; rw [List.drop_eq_nil_of_le (by omega)]; simp
        rw [e0]
        unfold readE
        rw [if_neg h1, if_pos ⟨h0, rfl⟩]
        refine ⟨_, ?_, kindIs_eof⟩
        intro W g cur hc hg h2 h3 h4 h5 h6 h7
        refine (read_end _ m m f B B fd 0 ro ad dv (St.fd ⟨(bs.length : Int), false, ro, bs⟩) W h7 h5 h6 h0 (by omega) hl).mono ?_
        rintro e w' ⟨rfl, n, rfl⟩
        refine ⟨rfl, ?_, h6.drewN n, ⟨cur, hg, hc, fun j u hu => by simp at hu⟩, (Wrote.refl _ _).drewN n, .inr (h7.below (pw_below_drewN (Below.refl _ _) n))⟩
        simpa [St.fh] using h5.drewN n
      · unfold readE
        rw [if_neg h1, if_neg h0]
        refine ⟨_, ?_, sentOr_nil⟩
        intro W g cur hc hg h2 h3 h4 h5 h6 h7
        have hrl : (readBs bs a m).length = min m (bs.length - a) := by simp [readBs]
        refine (read_some g 0 m m cur 5 f B fd a (readBs bs a m).length 0 ro dv _ W hg h2 h3 h4 (by omega) h5 h6 (by show a ≤ bs.length; omega) (by show m = 0 ∨ a < bs.length; omega) hrl (by omega) hl).mono ?_
        rintro e w' ⟨rfl, h8, h9, h10, h11⟩
        refine ⟨rfl, h8, h9, ⟨_, h10, ?_, ?_⟩, h11, .inl rfl⟩
        · have hs : ((List.take (readBs bs a m).length (List.drop a bs)).map (Value.int IntKind.u8)).length ≤ cur.toList.length := by simp; omega
          show (splice cur.toList 0 _).length = m
          rw [length_splice _ _ _ (by rw [Nat.zero_add]; exact hs)]
          simpa using hc
        · have e1 : (List.drop a bs).take (readBs bs a m).length = readBs bs a m := by
            rw [hrl]; unfold readBs
            rw [← List.length_drop, ← List.take_eq_take_min]
          show ∀ (j : Nat) (u : Value), _ → (splice cur.toList 0 (((List.drop a bs).take (readBs bs a m).length).map _)).toArray[j]? = some u
          rw [e1]
          intro j u hu
          have hj : j < ((readBs bs a m).map (Value.int .u8)).length := (List.getElem?_eq_some_iff.1 hu).1
          simp only [splice, List.take_zero, List.nil_append, List.getElem?_toArray]
          rw [List.getElem?_append_left hj]
          exact hu
  obtain ⟨errv, hR, hK⟩ := key
  refine (on_read_gen f B fd m _ B _ _ _ errv _ dv _ ad x w hop hn hH hD hm hB hS hB hR hK rfl hnm hfit).mono ?_
  rintro e w' ⟨A, c, rfl, hby, hnew, hH1, hD1, hW1⟩
  refine ⟨_, rfl, dv, hH1, hD1, hW1, .inl rfl, A, c, rfl, hby, fun y hy => ⟨?_, (hnew y hy).2⟩⟩
  have h1 := (hnew y hy).1
  rintro (h | h)
  · rcases h with h | h | h
    · have := lt_of_heap hH; omega
    · have := lt_of_heap hD.1; omega
    · have := own_lt hD.2.1 _ h; omega
  · omega
end Go.Proofs.YtnkhfdnahnphdaaDoor
