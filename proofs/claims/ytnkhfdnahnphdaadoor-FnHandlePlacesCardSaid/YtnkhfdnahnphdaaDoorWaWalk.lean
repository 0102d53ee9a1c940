/- FnWritesApart: the law's walk. -/
import Derived.Test.YtnkhfdnahnphdaaDoorOsWalk
import Derived.Test.YtnkhfdnahnphdaaDoorWaPlain
import Derived.Test.YtnkhfdnahnphdaaDoorRows
import Derived.IntWalk
import Derived.Outline
namespace Go.Proofs.YtnkhfdnahnphdaaDoor
open Go.ChangeShapes Go.WideShapes Go.ChangeAt Go.RowKit Go.Rd
open Go.Proofs.YtnkhfdnahnphdaaDoorW.PrintWords Go.Proofs.YtnkhfdnahnphdaaDoorW.PrintLast Go.Proofs.YtnkhfdnahnphdaaDoorW.PrintMore

theorem C_of_bytes' {w : World} {A : Option Addr} {n c : Nat} {l : List Int} (h : BytesIn w A n c l) : Kd.C (Kd.int .u8) w A n l := by
  refine ⟨h.len, by have := h.le; have := h.max; simp [maxLen] at this; omega, fun hn => ?_⟩
  cases A with
  | none => have := (h.nil rfl).1; omega
  | some ad =>
    refine ⟨ad, rfl, fun j p hj => ⟨[.int .u8 p], rfl, rfl, fun i u hu => ?_⟩⟩
    have hi : i = 0 := by
      have := (List.getElem?_eq_some_iff.1 hu).1
      simp at this; omega
    subst hi
    cases hu
    have e : j * (Kd.int IntKind.u8).sz + 0 = j := by
      have : (Kd.int IntKind.u8).sz = 1 := rfl
      rw [this]; omega
    rw [e]
    exact h.cells ad rfl j _ (by simp [hj])
theorem C_str {w : World} {A : Option Addr} {n c : Nat} {l : List Int} (h : Kd.C (Kd.int .u8) w A n l) : ∀ j, (convert 22 9 (.slice A n c)).run Tryd.prog (w.drewN j) = .ok (.string (strOfNums l)) (w.drewN j) :=
  fun j => Kd.C_string Tryd.underlying22 Tryd.underlying5 Tryd.underlying9 (Kd.C_drewN h j)
/-- A part of bytes, and what it reads as. -/
theorem mid_run {w : World} {A : Option Addr} {n c : Nat} {l : List Int} (h : BytesIn w A n c l) (a b : Nat) (hab : a ≤ b) (hb : b ≤ n) :
    ∃ A', (∀ W : World, (Instr.slice 22 (.slice A n c) (some (.int .i64 (a : Int))) (some (.int .i64 (b : Int))) none).run Tryd.prog W = .ok (.slice A' ((l.take b).drop a).length (c - a)) W) ∧ Kd.C (Kd.int .u8) w A' ((l.take b).drop a).length ((l.take b).drop a) := by
  obtain ⟨i0, hi, hzz⟩ := Option.map_eq_some_iff.1 infoU8
  simp only [Prod.mk.injEq] at hzz
  obtain ⟨A', h1, h2, _⟩ := print_mid_int (P := Tryd.prog) (k := .u8) 22 5 Tryd.underlying22 hi hzz.2.1 A c l (a : Int) (b : Int) (by omega) (by omega) (by have := h.len; omega) (by have := h.len; have := h.le; omega)
  rw [h.len] at h1 h2
  simp only [Int.toNat_natCast] at h1 h2
  exact ⟨A', h1, Kd.C_of_reads (d := (0 : Int)) (h1 := fun _ => rfl) (h2 w (Kd.reads_of_C (enc := Value.int .u8) (d := (0 : Int)) (h1 := fun _ => rfl) (C_of_bytes' h)))⟩

theorem mid_run' {w : World} {A : Option Addr} {n c : Nat} {l : List Int} (h : BytesIn w A n c l) (a k : Nat) (r : List Int) (hb : a + k ≤ n) (hr : (l.take (a + r.length)).drop a = r) (hk : r.length = k) :
    ∃ A', (∀ W : World, (Instr.slice 22 (.slice A n c) (some (.int .i64 (a : Int))) (some (.int .i64 ((a : Int) + k))) none).run Tryd.prog W = .ok (.slice A' k (c - a)) W) ∧ Kd.C (Kd.int .u8) w A' k r := by
  subst hk
  obtain ⟨A', h1, h2⟩ := mid_run h a (a + r.length) (by omega) hb
  rw [hr, Int.natCast_add] at h1
  rw [hr] at h2
  exact ⟨A', h1, h2⟩

/-- A step that writes at a place. -/
def writeStp (a : Int) (A : Option Addr) (n c : Nat) : Stp := ⟨15, ⟨#[]⟩, ⟨#[]⟩, 0, 0, 0, A, n, c, a, 0, 0⟩
theorem stepK_write {W : World} (a : Int) {A : Option Addr} {n c : Nat} {b : List Int} (h : BytesIn W A n c b) : StepK W (writeStp a A n c, b) [.int .i64 15, .string ⟨#[]⟩, .string ⟨#[]⟩, .int .i64 0, .int .i64 0, .int .i64 0, .slice A n c, .int .i64 a, .int .i64 0, .int .i64 0] := ⟨rfl, h⟩
theorem steps_lit' (W : World) (L : List (Stp × List Int)) (inner : List Value) (hr : Reps (StepK W) 10 L inner) (hm : L.length ≤ 1000000) :
    ReadsRow (StepK (W.alloc (.cells inner.toArray 33))) 10 (W.alloc (.cells inner.toArray 33)) (some ⟨W.heap.size, 0, none⟩) L.length L := by
  obtain ⟨A, c, e, _, h⟩ := OwnRow.reads (OwnRow.lit (e := 33) W W.heap.size hr (Nat.le_refl _) (by omega))
  injection e with e1 e2 e3
  subst e1
  exact h.imp_ (Below.refl _ _) (fun p cs hp => ⟨hp.1, hp.2.below ((Below.refl _ _).alloc (Nat.le_refl _) _)⟩)

/-- Two writes, one behind the other. -/
theorem two_writes (dA : Option Addr) (dm dc : Nat) (data : List Int) (bA : Option Addr) (bl bc : Nat) (b : List Int) (cA : Option Addr) (cl cc : Nat) (c : List Int) (a o : Nat) (W : World) (inner : List Value)
    (hd : BytesIn W dA dm dc data) (hb : BytesIn W bA bl bc b) (hc : BytesIn W cA cl cc c) (hdm : dm ≤ 2000) (h1 : a + bl ≤ dm) (h2 : o + cl ≤ dm)
    (hr : Reps (StepK W) 10 [(writeStp (a : Int) bA bl bc, b), (writeStp (o : Int) cA cl cc, c)] inner) (r : List Int) (hrr : ov (ov data a b) o c = r) (H : Nat) (hH : W.heap.size = H) :
    Calls Tryd.prog 12 #[.slice dA dm dc, .slice (some ⟨H, 0, none⟩) 2 2] (W.alloc (.cells inner.toArray 33)) fun e w' => ∃ v lA lc, e = .returned (.tuple #[v, .slice lA dm lc, .bool true]) ∧ BytesIn w' lA dm lc r ∧ Below W.heap.size W w' := by
  subst hH
  have hdl := hd.len
  have hbl := hb.len
  have hcl := hc.len
  have e1 : (ov data a b).length = dm := by rw [ov_length (by omega)]; exact hdl
  have e2 : r.length = dm := by rw [← hrr, ov_length (by omega)]; exact e1
  have hR : Runs ⟨0, false, false, data⟩ [(writeStp (a : Int) bA bl bc, b), (writeStp (o : Int) cA cl cc, c)] [⟨0, bl, 0, []⟩, ⟨0, cl, 0, []⟩] ⟨(o : Int) + cl, false, false, r⟩ := by
    refine .cons (ok_write_at _ _ _ a rfl rfl rfl rfl (by show a ≤ data.length; omega) (by show bl ≤ _; omega) (by show data.length ≤ _; omega)) ?_
    refine .cons (s' := ⟨(o : Int) + cl, false, false, r⟩) ?_ (.nil _)
    have := ok_write_at ⟨(a : Int) + bl, false, false, over data a b⟩ (writeStp (o : Int) cA cl cc) c o rfl rfl rfl rfl (by show o ≤ (ov data a b).length; omega) (by show cl ≤ _; omega) (by show (ov data a b).length ≤ _; omega)
    rw [← hrr]
    exact this
  have h := one_any dA dm dc data (some ⟨W.heap.size, 0, none⟩) 2 _ _ _ (W.alloc (.cells inner.toArray 33)) (hd.below ((Below.refl _ _).alloc (Nat.le_refl _) _)) (by omega) (steps_lit' W _ inner hr (by simp)) (by simp) hR (by show r.length ≤ _; omega)
  refine h.mono ?_
  rintro e w' ⟨v, lA, lc, rfl, hO, hB1, hB2⟩
  have e3 : (⟨(o : Int) + cl, false, false, r⟩ : St).bs.length = dm := e2
  rw [e3] at hB1 ⊢
  exact ⟨v, lA, lc, rfl, hB1, ((Below.refl _ _).alloc (Nat.le_refl _) _).trans (hB2.mono (by simp))⟩

theorem two_new (w : World) (o1 o2 : Obj) : ((w.alloc o1).alloc o2).heap[w.heap.size + 1]? = some o2 := by
  have := alloc_new (w.alloc o1) o2
  rwa [World.size_alloc] at this
theorem cells10 {w : World} {b : Nat} {t : TypeId} {a0 a1 a2 a3 a4 a5 a6 a7 a8 a9 : Value} (h : w.heap[b]? = some (.cells #[a0, a1, a2, a3, a4, a5, a6, a7, a8, a9] t (0, 0))) :
    w.cell? ⟨b, 0, none⟩ = some a0 ∧ w.cell? ⟨b, 1, none⟩ = some a1 ∧ w.cell? ⟨b, 2, none⟩ = some a2 ∧ w.cell? ⟨b, 3, none⟩ = some a3 ∧ w.cell? ⟨b, 4, none⟩ = some a4 ∧ w.cell? ⟨b, 5, none⟩ = some a5 ∧ w.cell? ⟨b, 6, none⟩ = some a6 ∧ w.cell? ⟨b, 7, none⟩ = some a7 ∧ w.cell? ⟨b, 8, none⟩ = some a8 ∧ w.cell? ⟨b, 9, none⟩ = some a9 :=
  ⟨(cell_of h 0).trans rfl, (cell_of h 1).trans rfl, (cell_of h 2).trans rfl, (cell_of h 3).trans rfl, (cell_of h 4).trans rfl, (cell_of h 5).trans rfl, (cell_of h 6).trans rfl, (cell_of h 7).trans rfl, (cell_of h 8).trans rfl, (cell_of h 9).trans rfl⟩

set_option maxRecDepth 100000 in
set_option maxHeartbeats 3000000 in
theorem wa_walk (dA : Option Addr) (dm dc : Nat) (data : List Int) (bA : Option Addr) (bl bc : Nat) (b : List Int) (cA : Option Addr) (cl cc : Nat) (c : List Int) (a o : Nat) (w : World)
    (hd : BytesIn w dA dm dc data) (hb : BytesIn w bA bl bc b) (hc : BytesIn w cA cl cc c) (hdm : dm ≤ 2000) (h1 : a + bl ≤ dm) (h2 : o + cl ≤ dm) :
    Calls Tryd.prog 6 #[.slice dA dm dc, .slice bA bl bc, .slice cA cl cc, .int .i64 (a : Int), .int .i64 (o : Int)] w fun e w' => e = .returned (.bool true) ∧ Below w.heap.size w w' := by
  have hdl := hd.len
  have hbl := hb.len
  have hcl := hc.len
  obtain ⟨r1, hr1⟩ : ∃ r, ov (ov data a b) o c = r := ⟨_, rfl⟩
  obtain ⟨r2, hr2⟩ : ∃ r, ov (ov data o c) a b = r := ⟨_, rfl⟩
  have HR1 := Lib.hid hr1
  have HR2 := Lib.hid hr2
  have HDL := Lib.hid hdl
  have HBL := Lib.hid hbl
  have HCL := Lib.hid hcl
  clear hr1 hr2 hdl hbl hcl
  have hcall1 := two_writes dA dm dc data bA bl bc b cA cl cc c a o
  have hcall2 := two_writes dA dm dc data cA cl cc c bA bl bc b o a
  have HC1 := Lib.hid hcall1
  have HC2 := Lib.hid hcall2
  clear hcall1 hcall2
  go_enter Tryd.func6, Tryd.ntmps6
  go_wp2_with fail
  have hB2 : ∀ o1 o2, Below w.heap.size w ((w.alloc o1).alloc o2) := fun o1 o2 => ((Below.refl _ _).alloc (Nat.le_refl _) o1).alloc (by simp) o2
  refine (HC1.out _ _ (hd.below (hB2 _ _)) (hb.below (hB2 _ _)) (hc.below (hB2 _ _)) hdm h1 h2 ?_ r1 HR1.out (w.heap.size + 1 + 1) (by simp)).mono ?_
  · exact Reps.c10 (stepK_write _ (hb.below (hB2 _ _))) (Reps.c10 (stepK_write _ (hc.below (hB2 _ _))) (Reps.none _ _))
  rintro e w3 ⟨v3, lA, lc, rfl, hL1, hB3⟩
  have hB3' := (hB2 (.cells #[.int .i64 15, .string ⟨#[]⟩, .string ⟨#[]⟩, .int .i64 0, .int .i64 0, .int .i64 0, .slice bA bl bc, .int .i64 (a : Int), .int .i64 0, .int .i64 0] 33) (.cells #[.int .i64 15, .string ⟨#[]⟩, .string ⟨#[]⟩, .int .i64 0, .int .i64 0, .int .i64 0, .slice cA cl cc, .int .i64 (o : Int), .int .i64 0, .int .i64 0] 33)).trans (hB3.mono (by simp; omega))
  have k1 := (hB3.block w.heap.size (by simp; omega)).trans (alloc_keeps (alloc_new w _) _)
  have k2 := (hB3.block (w.heap.size + 1) (by simp)).trans (two_new w _ _)
  have hd3 := hd.below hB3'
  have hb3 := hb.below hB3'
  have hc3 := hc.below hB3'
  obtain ⟨m0, m1, m2, m3, m4, m5, m6, m7, m8, m9⟩ := cells10 k1
  obtain ⟨n0, n1, n2, n3, n4, n5, n6, n7, n8, n9⟩ := cells10 k2
  clear k1 k2
  go_wp2_with fail
  refine (HC2.out _ _ hd3 hc3 hb3 hdm h2 h1 ?_ r2 HR2.out w3.heap.size rfl).mono ?_
  · exact Reps.c10 (stepK_write _ hc3) (Reps.c10 (stepK_write _ hb3) (Reps.none _ _))
  rintro e w4 ⟨v4, lA', lc', rfl, hL2, hB4⟩
  clear m0 m1 m2 m3 m4 m5 m6 m7 m8 m9 n0 n1 n2 n3 n4 n5 n6 n7 n8 n9
  go_wp2_with fail
  have hB4' := hB3'.trans (hB4.mono hB3'.size)
  have hM1 := hL1.below hB4
  have q1 : IntKind.i64.wrap ((o : Int) + cl) = (o : Int) + cl := IntWalk.i64_in _ (by omega)
  have q2 : IntKind.i64.wrap ((a : Int) + bl) = (a : Int) + bl := IntWalk.i64_in _ (by omega)
  obtain ⟨A1, s1, C1⟩ := mid_run' hM1 o cl c (by omega) (by
    have e1 : (ov data a b).length = dm := by rw [ov_length (by have := HDL.out; have := HBL.out; omega)]; exact HDL.out
    rw [← HR1.out]
    exact ov_mid (by rw [e1, HCL.out]; omega)) HCL.out
  obtain ⟨A2, s2, C2⟩ := mid_run' hL2 a bl b (by omega) (by
    have e1 : (ov data o c).length = dm := by rw [ov_length (by have := HDL.out; have := HCL.out; omega)]; exact HDL.out
    rw [← HR2.out]
    exact ov_mid (by rw [e1, HBL.out]; omega)) HBL.out
  have z1 := C_str (c := lc - o) C1
  have z2 := C_str (c := cc) (C_of_bytes' (hc.below hB4'))
  have z3 := C_str (c := lc' - a) C2
  have z4 := C_str (c := bc) (C_of_bytes' (hb.below hB4'))
  have z5 := C_str (c := lc) (C_of_bytes' hM1)
  have z6 := C_str (c := lc') (C_of_bytes' hL2)
  clear C1 C2
  go_quiet (fail)
  clear s1 s2 z1 z2 z3 z4 q1 q2
  have hBf := hB4'.trans ((pw_below_drewN (Below.refl w4.heap.size w4) nq).mono hB4'.size)
  have HE : Hid ((o + cl ≤ a ∨ a + bl ≤ o) → r1 = r2) := fun h => by
    rw [← HR1.out, ← HR2.out]
    exact ov_comm (by rw [HDL.out, HBL.out]; exact h1) (by rw [HDL.out, HCL.out]; exact h2) (by rw [HBL.out, HCL.out]; exact h)
  rcases Nat.lt_or_ge a (o + cl) with g1 | g1
  · rcases Nat.lt_or_ge o (a + bl) with g2 | g2
    · go_wp2
      go_ret
      exact ⟨rfl, hBf⟩
    · have e := HE.out (.inr g2)
      subst e
      go_wp2
      go_ret
      exact ⟨by simp, hBf⟩
  · have e := HE.out (.inl g1)
    subst e
    go_wp2
    go_ret
    exact ⟨by simp, hBf⟩
end Go.Proofs.YtnkhfdnahnphdaaDoor
