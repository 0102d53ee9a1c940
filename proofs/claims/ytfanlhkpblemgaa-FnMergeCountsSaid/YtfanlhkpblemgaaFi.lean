/- What is told of a file: FileInfo's methods, and what impl makes of it. -/
import Derived.Test.YtfanlhkpblemgaaSp
namespace Go.Proofs.Ytfanlhkpblemgaa
open Go.ChangeShapes Go.WideShapes Go.ChangeAt Go.RowKit Go.Rd
set_option linter.unusedVariables false

namespace Fi
abbrev tI : TypeId := 61
abbrev tD : TypeId := 59
/-- What a file's data says, but for its bytes: its name, the slice, the directory's map, and the rest. -/
structure Fd where
  nm : ByteArray
  A : Option Addr
  n : Nat
  c : Nat
  md : Value
  dir : Bool
  mode : Int
  mt : Int
  uid : Int
  gid : Int
def Fd.cells (d : Fd) : Array Value := #[.string d.nm, .slice d.A d.n d.c, d.md, .bool d.dir, .int .u32 d.mode, .int .i64 d.mt, .int .i64 d.uid, .int .i64 d.gid]
/-- Block p holds a FileInfo of the file's data in block fd. -/
def InfoIs (w : World) (p fd : Nat) (d : Fd) : Prop := w.heap[p]? = some (.cells #[.pointer (some ⟨fd, 0, none⟩)] tI (0, 0)) ∧ w.heap[fd]? = some (.cells #[.string d.nm, .slice d.A d.n d.c, d.md, .bool d.dir, .int .u32 d.mode, .int .i64 d.mt, .int .i64 d.uid, .int .i64 d.gid] tD (0, 0))
theorem InfoIs.wrote {w w' : World} {p fd : Nat} {d : Fd} {S : Nat → Prop} (h : InfoIs w p fd d) (hw : Wrote S w w') (h1 : ¬ S p) (h2 : ¬ S fd) : InfoIs w' p fd d :=
  ⟨(hw.block p (lt_of_heap h.1) h1).trans h.1, (hw.block fd (lt_of_heap h.2) h2).trans h.2⟩
theorem InfoIs.below {w w' : World} {p fd : Nat} {d : Fd} (h : InfoIs w p fd d) (hb : Below w.heap.size w w') : InfoIs w' p fd d := h.wrote (S := fun _ => False) (Wrote.of_below hb) id id
/-- The size that is told. -/
def Fd.size (d : Fd) : Int := if d.dir = true then 42 else d.n

section
variable (w : World) (p fd : Nat) (d : Fd) (h : InfoIs w p fd d)
def NamePost (w : World) (d : Fd) (e : Ending) (w' : World) : Prop := e = .returned (.string (Sp.base d.nm)) ∧ ∃ n, w' = w.drewN n
theorem name_any (hs : d.nm.size ≤ 4294967296) (h : InfoIs w p fd d) : Calls Try.prog 23 #[.pointer (some ⟨p, 0, none⟩)] w (NamePost w d) := by
  have c0 := (cell_of h.1 0).trans rfl
  have d0 := (cell_of h.2 0).trans rfl
  clear h
  go_enter Try.func23, Try.ntmps23
  go_wp2_with fail
  refine (Sp.split_any d.nm w hs).mono ?_
  rintro e w1 ⟨rfl, n, rfl⟩
  go_wp2_with fail
  go_ret
  exact ⟨rfl, _, rfl⟩
theorem dir_any (h : InfoIs w p fd d) : Calls Try.prog 27 #[.pointer (some ⟨p, 0, none⟩)] w fun e w' => e = .returned (.bool d.dir) ∧ w = w' := by
  have c0 := (cell_of h.1 0).trans rfl
  have d0 := (cell_of h.2 3).trans rfl
  clear h
  go_enter Try.func27, Try.ntmps27
  go_wp2
  go_ret
  exact ⟨rfl, rfl⟩
theorem mode_any (h : InfoIs w p fd d) : Calls Try.prog 26 #[.pointer (some ⟨p, 0, none⟩)] w fun e w' => e = .returned (.int .u32 d.mode) ∧ w = w' := by
  have c0 := (cell_of h.1 0).trans rfl
  have d0 := (cell_of h.2 4).trans rfl
  clear h
  go_enter Try.func26, Try.ntmps26
  go_wp2
  go_ret
  exact ⟨rfl, rfl⟩
theorem time_any (h : InfoIs w p fd d) : Calls Try.prog 28 #[.pointer (some ⟨p, 0, none⟩)] w fun e w' => e = .returned (.int .i64 d.mt) ∧ w = w' := by
  have c0 := (cell_of h.1 0).trans rfl
  have d0 := (cell_of h.2 5).trans rfl
  clear h
  go_enter Try.func28, Try.ntmps28
  go_wp2
  go_ret
  exact ⟨rfl, rfl⟩
theorem size_any (h : InfoIs w p fd d) : Calls Try.prog 25 #[.pointer (some ⟨p, 0, none⟩)] w fun e w' => e = .returned (.int .i64 d.size) ∧ w = w' := by
  have hd := dir_any w p fd d h
  have HD := Lib.hid hd
  have c0 := (cell_of h.1 0).trans rfl
  have d0 := (cell_of h.2 1).trans rfl
  clear h hd
  unfold Fd.size
  obtain ⟨dn, hdn⟩ : ∃ dn, dn = d.dir := ⟨_, rfl⟩
  rw [← hdn] at HD ⊢
  clear hdn
  cases dn with
  | true =>
    go_enter Try.func25, Try.ntmps25
    go_wp2_with fail
    refine HD.out.mono ?_
    rintro e w1 ⟨rfl, rfl⟩
    go_wp2_with fail
    go_ret
    exact ⟨rfl, rfl⟩
  | false =>
    go_enter Try.func25, Try.ntmps25
    go_wp2_with fail
    refine HD.out.mono ?_
    rintro e w1 ⟨rfl, rfl⟩
    go_wp2_with fail
    go_ret
    exact ⟨rfl, rfl⟩
/-- The cells of an Info. -/
def Fd.told (d : Fd) : Array Value := #[.string (Sp.base d.nm), .int .i64 d.size, .int .i64 d.mode, .bool d.dir, .int .i64 d.mt]
def FromPost (w : World) (d : Fd) (e : Ending) (w' : World) : Prop := e = .returned (.agg #[.string (Sp.base d.nm), .int .i64 d.size, .int .i64 d.mode, .bool d.dir, .int .i64 d.mt]) ∧ Below w.heap.size w w'
set_option maxHeartbeats 1000000 in
theorem from_any (hs : d.nm.size ≤ 4294967296) (hm : 0 ≤ d.mode ∧ d.mode ≤ 4294967295) (h : InfoIs w p fd d) : Calls Try.prog 21 #[.pointer (some ⟨p, 0, none⟩)] w (FromPost w d) := by
  have HI := Lib.hid h
  obtain ⟨m1, m2⟩ := hm
  obtain ⟨sz, hsz⟩ : ∃ sz, sz = d.size := ⟨_, rfl⟩
  have HSZ := Lib.hid hsz
  clear h hsz
  go_enter Try.func21, Try.ntmps21
  go_wp2_with fail
  have hB0 := fun o => (Below.refl w.heap.size w).alloc (Nat.le_refl _) o
  refine (name_any _ p fd d hs (HI.out.below (hB0 _))).mono ?_
  rintro e w1 ⟨rfl, n, rfl⟩
  go_wp2_with fail
  refine (size_any _ p fd d ((HI.out.below (hB0 _)).below (below_drewN (Below.refl _ _) n))).mono ?_
  rintro e w1 ⟨rfl, rfl⟩
  rw [← HSZ.out]
  go_wp2_with fail
  refine (mode_any _ p fd d ((HI.out.below (hB0 _)).below (below_drewN (Below.refl _ _) n))).mono ?_
  rintro e w1 ⟨rfl, rfl⟩
  go_wp2_with fail
  refine (dir_any _ p fd d ((HI.out.below (hB0 _)).below (below_drewN (Below.refl _ _) n))).mono ?_
  rintro e w1 ⟨rfl, rfl⟩
  go_wp2_with fail
  refine (time_any _ p fd d ((HI.out.below (hB0 _)).below (below_drewN (Below.refl _ _) n))).mono ?_
  rintro e w1 ⟨rfl, rfl⟩
  go_wp2_with fail
  refine bodyPost_ret (v := .agg #[.string (Sp.base d.nm), .int .i64 sz, .int .i64 d.mode, .bool d.dir, .int .i64 d.mt]) (by simp [results, Try.results21, go_sem]) rfl ⟨by rw [HSZ.out], ?_⟩
  exact (((((below_drewN (hB0 _) n).setCell (p := ⟨w.heap.size, 0, none⟩) (Nat.le_refl _) _).setCell (p := ⟨w.heap.size, 1, none⟩) (Nat.le_refl _) _).setCell (p := ⟨w.heap.size, 2, none⟩) (Nat.le_refl _) _).setCell (p := ⟨w.heap.size, 3, none⟩) (Nat.le_refl _) _).setCell (p := ⟨w.heap.size, 4, none⟩) (Nat.le_refl _) _
end
end Fi
end Go.Proofs.Ytfanlhkpblemgaa
