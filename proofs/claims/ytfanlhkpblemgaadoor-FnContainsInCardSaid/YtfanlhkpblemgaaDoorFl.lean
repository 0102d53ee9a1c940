/- Files in memory: what a file's data and a handle hold, and how they stay. -/
import Derived.Test.YtfanlhkpblemgaaDoorProg
import Derived.Test.YtfanlhkpblemgaaDoorKx
import Derived.WalkKit
import Derived.WalkLawsBesides
import Derived.WalkSpells
import Derived.ChangeAlike
import Derived.ProofKit
import Derived.RegionTactic
namespace Go.Proofs.YtfanlhkpblemgaaDoor
open Go.ChangeShapes Go.WideShapes Go.ChangeAt Go.RowKit Go.Rd
open Go.Proofs.YtfanlhkpblemgaaDoorW.PrintWords Go.Proofs.YtfanlhkpblemgaaDoorW.PrintLast Go.Proofs.YtfanlhkpblemgaaDoorW.PrintMore

/-- The types of a file's data, of a handle, of a byte. -/
abbrev tFD : TypeId := 88
abbrev tFH : TypeId := 82
abbrev tU8 : TypeId := 5

/-- A file's data. -/
structure FD where
  nm : ByteArray
  bs : List Int
  md : Value
  dir : Bool
  mode : Int
  mt : Int
  uid : Int
  gid : Int
/-- A handle. -/
structure FH where
  at_ : Int
  rdc : Int
  cl : Bool
  ro : Bool
  fd : Nat

def DataIs (w : World) (B fd : Nat) (dv : Value) (d : FD) : Prop :=
  w.heap[fd]? = some (.cells #[.string d.nm, dv, d.md, .bool d.dir, .int .u32 d.mode, .int .i64 d.mt, .int .i64 d.uid, .int .i64 d.gid] tFD (0, 0)) ∧
  w.ownsRow B tU8 1 dv d.bs.length (d.bs.map (Value.int .u8)) ∧ ∀ c ∈ d.bs, 0 ≤ c ∧ c ≤ 255
def HandleIs (w : World) (f : Nat) (h : FH) : Prop :=
  w.heap[f]? = some (.cells #[.int .i64 h.at_, .int .i64 h.rdc, .bool h.cl, .bool h.ro, .pointer (some ⟨h.fd, 0, none⟩)] tFH (0, 0))

section
variable {w w' : World} {B fd f : Nat} {dv : Value} {d : FD} {h : FH} {S : Nat → Prop}
theorem HandleIs.wrote (hh : HandleIs w f h) (hw : Wrote S w w') (h1 : ¬ S f) : HandleIs w' f h := (hw.block f (lt_of_heap hh) h1).trans hh
theorem DataIs.wrote (hd : DataIs w B fd dv d) (hw : Wrote S w w') (h1 : ¬ S fd) (h2 : ∀ k, dv.ownBlock = some k → ¬ S k) : DataIs w' B fd dv d :=
  ⟨(hw.block fd (lt_of_heap hd.1) h1).trans hd.1, own_move hd.2.1 (fun k hk => hw.block k (own_lt hd.2.1 k hk) (h2 k hk)), hd.2.2⟩
theorem HandleIs.below (hh : HandleIs w f h) (hb : Below w.heap.size w w') : HandleIs w' f h := hh.wrote (Wrote.of_below (S := fun _ => False) hb) id
theorem DataIs.below (hd : DataIs w B fd dv d) (hb : Below w.heap.size w w') : DataIs w' B fd dv d := hd.wrote (Wrote.of_below (S := fun _ => False) hb) id (fun _ _ => id)
theorem HandleIs.set (hh : HandleIs w f h) {p : Addr} (hp : f ≠ p.block) (u : Value) : HandleIs (w.setCell p u) f h := (Below.heap_setCell _ _ _ _ hp).trans hh
theorem wrote_new (hw : Wrote S w w') {p : Addr} (hp : w.heap.size ≤ p.block) (u : Value) : Wrote S w (w'.setCell p u) := hw.setCell (fun h => by omega) u
theorem wrote_grown {row : Option Nat} (hg : w.grownBy w' row) : Wrote (fun k => row = some k) w w' := ⟨hg.os, hg.tape, hg.output, hg.size, fun k hk hs => hg.block k hk (fun e => hs e.symm)⟩
theorem blk_ne {a b : Nat} {c c' : Array Value} {t t' : TypeId} {r r' : Nat × Nat} (h1 : w.heap[a]? = some (.cells c t r)) (h2 : w.heap[b]? = some (.cells c' t' r')) (ht : t ≠ t') : a ≠ b := by
  rintro rfl
  rw [h1] at h2
  injection h2 with h2
  injection h2 with _ h2
  exact ht h2
theorem fd_ne (hd : DataIs w B fd dv d) (hh : HandleIs w f h) : fd ≠ f := blk_ne hd.1 hh (by decide)
theorem row_fd (hd : DataIs w B fd dv d) (k : Nat) (hk : dv.ownBlock = some k) : k ≠ fd := by
  obtain ⟨c, hc⟩ := own_typed hd.2.1 k hk
  exact blk_ne hc hd.1 (by decide)
theorem row_fh (hd : DataIs w B fd dv d) (hh : HandleIs w f h) (k : Nat) (hk : dv.ownBlock = some k) : k ≠ f := by
  obtain ⟨c, hc⟩ := own_typed hd.2.1 k hk
  exact blk_ne hc hh (by decide)
theorem DataIs.slice (hd : DataIs w B fd dv d) : ∃ A c, dv = .slice A d.bs.length c := own_slice hd.2.1
end

theorem wrote_set (w : World) (f o : Nat) (u : Value) : Wrote (fun k => k = f) w (w.setCell ⟨f, o, none⟩ u) := (Wrote.refl (fun k => k = f) w).setCell (fun _ => rfl) u

theorem below3 (w : World) (o1 o2 o3 : Obj) : Below w.heap.size w (((w.alloc o1).alloc o2).alloc o3) :=
  (((Below.refl _ _).alloc (Nat.le_refl _) o1).alloc (by simp) o2).alloc (by simp; omega) o3
theorem third_new (w : World) (o1 o2 o3 : Obj) : (((w.alloc o1).alloc o2).alloc o3).heap[w.heap.size + 1 + 1]? = some o3 := by
  have := alloc_new ((w.alloc o1).alloc o2) o3
  simpa using this

theorem second_new (w : World) (o1 o2 o3 : Obj) : (((w.alloc o1).alloc o2).alloc o3).heap[w.heap.size + 1]? = some o2 := by
  have h := alloc_keeps (alloc_new (w.alloc o1) o2) o3
  simpa using h
/-- The six cells of an answer's block. -/
theorem cells6 {w : World} {b : Nat} {t : TypeId} {a0 a1 a2 a3 a4 a5 : Value} (h : w.heap[b]? = some (.cells #[a0, a1, a2, a3, a4, a5] t (0, 0))) :
    (w.cell? ⟨b, 0, none⟩ = some a0 ∧ w.cell? ⟨b, 1, none⟩ = some a1 ∧ w.cell? ⟨b, 2, none⟩ = some a2 ∧ w.cell? ⟨b, 3, none⟩ = some a3 ∧ w.cell? ⟨b, 4, none⟩ = some a4 ∧ w.cell? ⟨b, 5, none⟩ = some a5) ∧
    (w.frozen? ⟨b, 0, none⟩ = false ∧ w.frozen? ⟨b, 1, none⟩ = false ∧ w.frozen? ⟨b, 2, none⟩ = false ∧ w.frozen? ⟨b, 3, none⟩ = false ∧ w.frozen? ⟨b, 4, none⟩ = false ∧ w.frozen? ⟨b, 5, none⟩ = false) :=
  ⟨⟨(cell_of h 0).trans rfl, (cell_of h 1).trans rfl, (cell_of h 2).trans rfl, (cell_of h 3).trans rfl, (cell_of h 4).trans rfl, (cell_of h 5).trans rfl⟩, free_of h 0, free_of h 1, free_of h 2, free_of h 3, free_of h 4, free_of h 5⟩

/-- From w to wx the file's data and the handle were written, and nothing else that was there. -/
def Laid (w wx : World) (f B fd : Nat) (h : FH) (dv : Value) (d : FD) : Prop :=
  ∃ dv1, HandleIs wx f h ∧ DataIs wx B fd dv1 d ∧ Wrote (fun k => k = f ∨ k = fd ∨ dv.ownBlock = some k) w wx ∧ (dv1.ownBlock = dv.ownBlock ∨ ∃ k, dv1.ownBlock = some k ∧ w.heap.size ≤ k)
theorem Laid.refl {w : World} {f B fd : Nat} {h : FH} {dv : Value} {d : FD} (hH : HandleIs w f h) (hD : DataIs w B fd dv d) : Laid w w f B fd h dv d := ⟨dv, hH, hD, Wrote.refl _ _, .inl rfl⟩
theorem Laid.of_drew {w wx : World} {f B fd : Nat} {h : FH} {dv : Value} {d : FD} (hl : Laid w.drew wx f B fd h dv d) : Laid w wx f B fd h dv d := by
  obtain ⟨dv1, h1, h2, h3, h4⟩ := hl
  exact ⟨dv1, h1, h2, ⟨h3.os, h3.tape, h3.output, h3.size, h3.block⟩, h4⟩
theorem Laid.trans {w w1 w2 : World} {f B fd : Nat} {h2 : FH} {dv dv1 : Value} {d2 : FD} (hw : Wrote (fun k => k = f ∨ k = fd ∨ dv.ownBlock = some k) w w1) (hat : dv1.ownBlock = dv.ownBlock ∨ ∃ k, dv1.ownBlock = some k ∧ w.heap.size ≤ k)
    (h : Laid w1 w2 f B fd h2 dv1 d2) : Laid w w2 f B fd h2 dv d2 := by
  obtain ⟨dv2, hH, hD, hw2, hat2⟩ := h
  refine ⟨dv2, hH, hD, ?_, ?_⟩
  · refine ⟨hw2.os.trans hw.os, hw2.tape.trans hw.tape, hw2.output.trans hw.output, Nat.le_trans hw.size hw2.size, fun k hk hs => ?_⟩
    refine (hw2.block k (Nat.lt_of_lt_of_le hk hw.size) (fun hs2 => ?_)).trans (hw.block k hk hs)
    rcases hs2 with e | e | e
    · exact hs (.inl e)
    · exact hs (.inr (.inl e))
    · rcases hat with e2 | ⟨j, e2, hj⟩
      · exact hs (.inr (.inr (e2 ▸ e)))
      · rw [e2] at e; injection e with e; omega
  · rcases hat2 with e | ⟨j, e, hj⟩
    · rcases hat with e2 | ⟨i, e2, hi⟩
      · exact .inl (e.trans e2)
      · exact .inr ⟨i, e.trans e2, hi⟩
    · exact .inr ⟨j, e, Nat.le_trans hw.size hj⟩
/-- A row written behind the data's slice, and the slice stored back. -/
theorem laid_store {w w1 : World} {f B fd n : Nat} {h : FH} {dv v1 : Value} {d : FD} {l : List Int} {xs : List Value} (hH : HandleIs w f h) (hD : DataIs w B fd dv d) (ho : w1.ownsRow B tU8 1 v1 n xs) (hg : w.grownBy w1 dv.ownBlock)
    (hat : v1.ownBlock = dv.ownBlock ∨ v1.ownBlock = some w.heap.size) (hn : n = l.length) (hx : xs = l.map (Value.int .u8)) (hl : ∀ c ∈ l, 0 ≤ c ∧ c ≤ 255) : Laid w (w1.setCell ⟨fd, 1, none⟩ v1) f B fd h dv { d with bs := l } := by
  subst hn hx
  have hw := wrote_grown hg
  have hd1 := (hw.block fd (lt_of_heap hD.1) (fun e => row_fd hD fd e rfl)).trans hD.1
  have hh1 := hH.wrote hw (fun e => row_fh hD hH f e rfl)
  have hf : ∀ k, v1.ownBlock = some k → k ≠ fd := fun k hk => by
    obtain ⟨c, hc⟩ := own_typed ho k hk
    exact blk_ne hc hd1 (by decide)
  refine ⟨v1, hh1.set (p := ⟨fd, 1, none⟩) (fun e => fd_ne hD hH e.symm) _, ⟨Go.Rd.heap_setCell_same (o := 1) hd1 _, own_move ho (fun k hk => Below.heap_setCell _ _ _ _ (hf k hk)), hl⟩, (hw.mono (fun k _ hk => .inr (.inr hk))).setCell (fun _ => .inr (.inl rfl)) _, ?_⟩
  rcases hat with e | e
  · exact .inl e
  · exact .inr ⟨_, e, Nat.le_refl _⟩

/-- The handle's place moved, behind a write of the data's block. -/
theorem laid_last {w w3 : World} {f B fd : Nat} {a rdc : Int} {cl ro : Bool} {dv : Value} {d0 d : FD} (hH : HandleIs w f ⟨a, rdc, cl, ro, fd⟩) (hD0 : DataIs w B fd dv d0) (hD : DataIs w3 B fd dv d) (hW : Wrote (fun k => k = fd) w w3) (x : Int) :
    Laid w (w3.setCell ⟨f, 0, none⟩ (.int .i64 x)) f B fd ⟨x, rdc, cl, ro, fd⟩ dv d := by
  have hH3 := hH.wrote hW (fun e => fd_ne hD0 hH e.symm)
  refine ⟨dv, Go.Rd.heap_setCell_same (o := 0) hH3 _, hD.wrote (wrote_set w3 f 0 _) (fun e => fd_ne hD hH3 e) (fun k hk e => row_fh hD hH3 k hk e), ?_, .inl rfl⟩
  exact (hW.mono (fun k _ hk => .inr (.inl hk))).setCell (fun _ => .inl rfl) _

/-- A block's type. -/
def Typed (w : World) (b : Nat) (t : TypeId) : Prop := ∃ c fr, w.heap[b]? = some (.cells c t fr)
theorem Typed.of {w : World} {b : Nat} {t : TypeId} {c : Array Value} {fr : Nat × Nat} (h : w.heap[b]? = some (.cells c t fr)) : Typed w b t := ⟨c, fr, h⟩
theorem Typed.set {w : World} {b : Nat} {t : TypeId} (h : Typed w b t) (p : Addr) (u : Value) : Typed (w.setCell p u) b t := by
  obtain ⟨c, fr, h⟩ := h
  by_cases e : b = p.block
  · subst e
    obtain ⟨pb, po, ps⟩ := p
    have h' : w.heap[pb]? = some (.cells c t fr) := h
    refine ⟨if ps.isSome = true then c else c.setIfInBounds po u, fr, ?_⟩
    simp only [World.setCell, Array.getElem?_modify, if_pos, h', Option.map_some]
  · exact ⟨c, fr, (Below.heap_setCell _ _ _ _ e).trans h⟩
/-- A store into a new block of another type. -/
theorem Laid.set {w wx : World} {f B fd : Nat} {h : FH} {dv : Value} {d : FD} (hl : Laid w wx f B fd h dv d) {p : Addr} {t : TypeId} (ht : Typed wx p.block t) (h1 : t ≠ tFH) (h2 : t ≠ tFD) (h3 : t ≠ tU8) (hn : w.heap.size ≤ p.block) (u : Value) : Laid w (wx.setCell p u) f B fd h dv d := by
  obtain ⟨dv1, hH, hD, hW, hat⟩ := hl
  obtain ⟨c, fr, hc⟩ := ht
  have e1 : f ≠ p.block := blk_ne hH hc h1.symm
  have e2 : fd ≠ p.block := blk_ne hD.1 hc h2.symm
  refine ⟨dv1, hH.set e1 u, ⟨setCell_keeps hD.1 e2 u, own_move hD.2.1 (fun k hk => Below.heap_setCell _ _ _ _ (fun e => ?_)), hD.2.2⟩, wrote_new hW hn u, hat⟩
  obtain ⟨c', hc'⟩ := own_typed hD.2.1 k hk
  exact blk_ne hc' hc h3.symm e

end Go.Proofs.YtfanlhkpblemgaaDoor
