/- Words over memory that our walks share: what a row of bytes reads as, which blocks a call may touch, cells and marks out of a whole block. -/
import Derived.Below
import Derived.WalkSmall
import Derived.Laws.AppendOwn
import Derived.Lib.Hide
import Derived.RowKit3
import Derived.Laws.MakeOwn
import Derived.Laws.OwnMore
namespace Go.Rd
open Go.RowKit

/-- A slice of integers that came in: nil, or a row of 'cap' cells, the first 'len' its elements. -/
def IsRow (k : IntKind) (w : World) (a : Option Addr) (len cap : Nat) (zs : List Int) : Prop :=
  (a = none ∧ len = 0 ∧ cap = 0 ∧ zs = []) ∨
  ∃ x, a = some x ∧ len ≤ cap ∧ cap ≤ maxLen ∧ zs.length = cap ∧ (∀ i, i < zs.length → w.cell? (x.add i) = some (.int k (zs.getD i 0))) ∧ ∀ n ∈ zs, (Lit.int k n).wf = true

/-- From w to w' at most new blocks are made and blocks of S are written. -/
structure Wrote (S : Nat → Prop) (w w' : World) : Prop where
  os : w'.os = w.os
  tape : w'.tape = w.tape
  output : w'.output = w.output
  size : w.heap.size ≤ w'.heap.size
  block : ∀ k, k < w.heap.size → ¬ S k → w'.heap[k]? = w.heap[k]?

theorem Wrote.refl (S : Nat → Prop) (w : World) : Wrote S w w := ⟨rfl, rfl, rfl, Nat.le_refl _, fun _ _ _ => rfl⟩
theorem Wrote.trans {S : Nat → Prop} {a b c : World} (h : Wrote S a b) (k : Wrote S b c) : Wrote S a c :=
  ⟨k.os.trans h.os, k.tape.trans h.tape, k.output.trans h.output, Nat.le_trans h.size k.size, fun i hi hs => (k.block i (Nat.lt_of_lt_of_le hi h.size) hs).trans (h.block i hi hs)⟩
theorem Wrote.mono {S S' : Nat → Prop} {a b : World} (h : Wrote S a b) (hs : ∀ k, k < a.heap.size → S k → S' k) : Wrote S' a b :=
  ⟨h.os, h.tape, h.output, h.size, fun i hi hn => h.block i hi fun s => hn (hs i hi s)⟩
theorem Wrote.of_below {S : Nat → Prop} {a b : World} (h : Below a.heap.size a b) : Wrote S a b :=
  ⟨h.os, h.tape, h.output, h.size, fun i hi _ => h.block i hi⟩
theorem Wrote.below {S : Nat → Prop} {a b : World} {B : Nat} (h : Wrote S a b) (hB : B ≤ a.heap.size) (hs : ∀ k, k < B → ¬ S k) : Below B a b :=
  ⟨h.os, h.tape, h.output, h.size, fun i hi => h.block i (Nat.lt_of_lt_of_le hi hB) (hs i hi)⟩
theorem Wrote.drewN {S : Nat → Prop} {a b : World} (h : Wrote S a b) (n : Nat) : Wrote S a (b.drewN n) := ⟨h.os, h.tape, h.output, h.size, h.block⟩
theorem Wrote.alloc {S : Nat → Prop} {a b : World} (h : Wrote S a b) (o : Obj) : Wrote S a (b.alloc o) :=
  h.trans (Wrote.of_below ((Below.refl _ _).alloc (Nat.le_refl _) o))
theorem Wrote.setCell {S : Nat → Prop} {a b : World} (h : Wrote S a b) {p : Addr} (hp : p.block < a.heap.size → S p.block) (u : Value) : Wrote S a (b.setCell p u) := by
  refine ⟨h.os, h.tape, h.output, ?_, fun i hi hs => ?_⟩
  · simpa [World.setCell] using h.size
  · rw [Below.heap_setCell _ _ _ _ (fun e => hs (by subst e; exact hp hi))]
    exact h.block i hi hs

theorem heap_setCell_same {w : World} {b o : Nat} {c : Array Value} {t : TypeId} {f : Nat × Nat} (h : w.heap[b]? = some (.cells c t f)) (u : Value) :
    (w.setCell ⟨b, o, none⟩ u).heap[b]? = some (.cells (c.setIfInBounds o u) t f) := by
  simp only [World.setCell, Array.getElem?_modify, if_pos, h, Option.map_some]
  simp

theorem cell_of {w : World} {b : Nat} {c : Array Value} {t : TypeId} {f : Nat × Nat} (h : w.heap[b]? = some (.cells c t f)) (o : Nat) : w.cell? ⟨b, o, none⟩ = c[o]? := by
  simp [World.cell?, h]
theorem free_of {w : World} {b : Nat} {c : Array Value} {t : TypeId} (h : w.heap[b]? = some (.cells c t (0, 0))) (o : Nat) : w.frozen? ⟨b, o, none⟩ = false := by
  simp [World.frozen?, h]

theorem lt_of_heap {w : World} {k : Nat} {o : Obj} (h : w.heap[k]? = some o) : k < w.heap.size := by
  rcases Nat.lt_or_ge k w.heap.size with h' | h'
  · exact h'
  · simp [Array.getElem?_eq_none h'] at h
theorem alloc_new (w : World) (o : Obj) : (w.alloc o).heap[w.heap.size]? = some o := by
  show (w.heap.push o)[w.heap.size]? = some o
  simp
theorem alloc_keeps {w : World} {k : Nat} {o : Obj} (h : w.heap[k]? = some o) (x : Obj) : (w.alloc x).heap[k]? = some o :=
  (Below.heap_alloc _ _ _ (lt_of_heap h)).trans h
theorem setCell_keeps {w : World} {k : Nat} {o : Obj} (h : w.heap[k]? = some o) {a : Addr} (hn : k ≠ a.block) (u : Value) : (w.setCell a u).heap[k]? = some o :=
  (Below.heap_setCell _ _ _ _ hn).trans h
theorem drewN_keeps {w : World} {k : Nat} {o : Obj} (h : w.heap[k]? = some o) (n : Nat) : (w.drewN n).heap[k]? = some o := h

theorem row_le {w : World} {B B' : Nat} {e : TypeId} {size n : Nat} {v : Value} {xs : List Value} (h : w.ownsRow B e size v n xs) (hB : B' ≤ B) : w.ownsRow B' e size v n xs := by
  rcases h with ⟨h1, h2 | ⟨g, cap, cur, h3, h4, h5⟩⟩
  · exact ⟨h1, .inl h2⟩
  · exact ⟨h1, .inr ⟨g, cap, cur, h3, Nat.le_trans hB h4, h5⟩⟩

theorem cells_new (W : World) (c : Array Value) (t : TypeId) (b : Nat) (hb : b = W.heap.size) (l : List Value) (hl : l = c.toList) :
    ∀ j u, l[j]? = some u → (W.alloc (.cells c t)).cell? ((⟨b, 0, none⟩ : Addr).add j) = some u := by
  subst hb hl
  intro j u hu
  have h := cell_of (alloc_new W (.cells c t)) (0 + j)
  rw [Nat.zero_add] at h
  have e : (⟨W.heap.size, 0, none⟩ : Addr).add j = ⟨W.heap.size, j, none⟩ := by
    cases j <;> simp [Addr.add]
  rw [e, h, ← hu]
  simp

/-- make([]T, n) in whatever world. -/
theorem make_run {P : Program} {t e : TypeId} {i : TypeInfo} {z : Value} (ht : P.underlying t = some (.slice e)) (hi : P.info? e = some i) (hz : i.zero = some z) (n : Nat)
    (hbytes : i.bytes * n ≤ 281474976710656) (h63 : n ≤ maxLen) : ∃ Z : Array Value, Hid (Z = madeCells z.cells (n * i.size)) ∧ Z.size = n * i.size ∧
      ∀ W : World, (Instr.makeSlice t (.int .i64 (n : Int)) (.int .i64 (n : Int))).run P W = .ok (.slice (some ⟨W.heap.size, 0, none⟩) n n) (W.alloc (.cells Z e)) := by
  refine ⟨_, Lib.hid rfl, size_madeCells _ _, fun W => ?_⟩
  have h63' : (n : Int) ≤ 9223372036854775807 := by
    have h := h63
    simp [maxLen] at h
    omega
  have hb' : (i.bytes : Int) * (n : Int) ≤ 281474976710656 := by
    have h : ((i.bytes * n : Nat) : Int) ≤ 281474976710656 := by omega
    rwa [Int.natCast_mul] at h
  have hr := run_make (P := P) W t e i z ht hi hz .i64 .i64 n n (by omega) (Int.le_refl _) hb' h63'
  simpa only [Int.toNat_natCast] using hr

end Go.Rd
