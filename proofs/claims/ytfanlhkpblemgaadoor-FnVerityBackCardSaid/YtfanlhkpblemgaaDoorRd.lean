/- Words over memory that our walks share: what a row of bytes reads as, which blocks a call may touch, cells and marks out of a whole block. -/
import Derived.Below
import Derived.WalkSmall
import Derived.Laws.AppendOwn
import Derived.Lib.Hide
import Derived.RowKit3
import Derived.Laws.MakeOwn
import Derived.Laws.AppendOwnNone
import Derived.Laws.CopyOwn
import Derived.Deep.AppendLies
import Derived.Laws.OwnMore
namespace Go.Rd
open Go.RowKit

/-- A slice of integers that came in: nil, or a row of 'cap' cells, the first 'len' its elements. -/
def IsRow (k : IntKind) (w : World) (a : Option Addr) (len cap : Nat) (zs : List Int) : Prop :=
  (a = none ∧ len = 0 ∧ cap = 0 ∧ zs = []) ∨
  ∃ x, a = some x ∧ len ≤ cap ∧ cap ≤ maxLen ∧ zs.length = cap ∧ (∀ i, i < zs.length → w.cell? (x.add i) = some (.int k (zs.getD i 0))) ∧ ∀ n ∈ zs, (Lit.int k n).wf = true

/-- From w to w' at most new blocks are made and blocks of S are written. -/
structure Wrote (S : Nat → Prop) (w w' : World) : Prop where
  os : w'.os = w.os
  tape : w'.tape = w.tape
  output : w'.output = w.output
  size : w.heap.size ≤ w'.heap.size
  block : ∀ k, k < w.heap.size → ¬ S k → w'.heap[k]? = w.heap[k]?

theorem Wrote.refl (S : Nat → Prop) (w : World) : Wrote S w w := ⟨rfl, rfl, rfl, Nat.le_refl _, fun _ _ _ => rfl⟩
theorem Wrote.trans {S : Nat → Prop} {a b c : World} (h : Wrote S a b) (k : Wrote S b c) : Wrote S a c :=
  ⟨k.os.trans h.os, k.tape.trans h.tape, k.output.trans h.output, Nat.le_trans h.size k.size, fun i hi hs => (k.block i (Nat.lt_of_lt_of_le hi h.size) hs).trans (h.block i hi hs)⟩
theorem Wrote.mono {S S' : Nat → Prop} {a b : World} (h : Wrote S a b) (hs : ∀ k, k < a.heap.size → S k → S' k) : Wrote S' a b :=
  ⟨h.os, h.tape, h.output, h.size, fun i hi hn => h.block i hi fun s => hn (hs i hi s)⟩
theorem Wrote.of_below {S : Nat → Prop} {a b : World} (h : Below a.heap.size a b) : Wrote S a b :=
  ⟨h.os, h.tape, h.output, h.size, fun i hi _ => h.block i hi⟩
theorem Wrote.below {S : Nat → Prop} {a b : World} {B : Nat} (h : Wrote S a b) (hB : B ≤ a.heap.size) (hs : ∀ k, k < B → ¬ S k) : Below B a b :=
  ⟨h.os, h.tape, h.output, h.size, fun i hi => h.block i (Nat.lt_of_lt_of_le hi hB) (hs i hi)⟩
theorem Wrote.drewN {S : Nat → Prop} {a b : World} (h : Wrote S a b) (n : Nat) : Wrote S a (b.drewN n) := ⟨h.os, h.tape, h.output, h.size, h.block⟩
theorem Wrote.alloc {S : Nat → Prop} {a b : World} (h : Wrote S a b) (o : Obj) : Wrote S a (b.alloc o) :=
  h.trans (Wrote.of_below ((Below.refl _ _).alloc (Nat.le_refl _) o))
theorem Wrote.setCell {S : Nat → Prop} {a b : World} (h : Wrote S a b) {p : Addr} (hp : p.block < a.heap.size → S p.block) (u : Value) : Wrote S a (b.setCell p u) := by
  refine ⟨h.os, h.tape, h.output, ?_, fun i hi hs => ?_⟩
  · simpa [World.setCell] using h.size
  · rw [Below.heap_setCell _ _ _ _ (fun e => hs (by subst e; exact hp hi))]
    exact h.block i hi hs

theorem heap_setCell_same {w : World} {b o : Nat} {c : Array Value} {t : TypeId} {f : Nat × Nat} (h : w.heap[b]? = some (.cells c t f)) (u : Value) :
    (w.setCell ⟨b, o, none⟩ u).heap[b]? = some (.cells (c.setIfInBounds o u) t f) := by
  simp only [World.setCell, Array.getElem?_modify, if_pos, h, Option.map_some]
  simp

theorem cell_of {w : World} {b : Nat} {c : Array Value} {t : TypeId} {f : Nat × Nat} (h : w.heap[b]? = some (.cells c t f)) (o : Nat) : w.cell? ⟨b, o, none⟩ = c[o]? := by
  simp [World.cell?, h]
theorem free_of {w : World} {b : Nat} {c : Array Value} {t : TypeId} (h : w.heap[b]? = some (.cells c t (0, 0))) (o : Nat) : w.frozen? ⟨b, o, none⟩ = false := by
  simp [World.frozen?, h]

theorem lt_of_heap {w : World} {k : Nat} {o : Obj} (h : w.heap[k]? = some o) : k < w.heap.size := by
  rcases Nat.lt_or_ge k w.heap.size with h' | h'
  · exact h'
  · simp [Array.getElem?_eq_none h'] at h
theorem alloc_new (w : World) (o : Obj) : (w.alloc o).heap[w.heap.size]? = some o := by
  show (w.heap.push o)[w.heap.size]? = some o
  simp
theorem alloc_keeps {w : World} {k : Nat} {o : Obj} (h : w.heap[k]? = some o) (x : Obj) : (w.alloc x).heap[k]? = some o :=
  (Below.heap_alloc _ _ _ (lt_of_heap h)).trans h
theorem setCell_keeps {w : World} {k : Nat} {o : Obj} (h : w.heap[k]? = some o) {a : Addr} (hn : k ≠ a.block) (u : Value) : (w.setCell a u).heap[k]? = some o :=
  (Below.heap_setCell _ _ _ _ hn).trans h
theorem drewN_keeps {w : World} {k : Nat} {o : Obj} (h : w.heap[k]? = some o) (n : Nat) : (w.drewN n).heap[k]? = some o := h

theorem row_le {w : World} {B B' : Nat} {e : TypeId} {size n : Nat} {v : Value} {xs : List Value} (h : w.ownsRow B e size v n xs) (hB : B' ≤ B) : w.ownsRow B' e size v n xs := by
  rcases h with ⟨h1, h2 | ⟨g, cap, cur, h3, h4, h5⟩⟩
  · exact ⟨h1, .inl h2⟩
  · exact ⟨h1, .inr ⟨g, cap, cur, h3, Nat.le_trans hB h4, h5⟩⟩

theorem cell_alloc_old {w : World} {g j : Nat} {v : Option Value} (hg : g < w.heap.size) (h : w.cell? ⟨g, j, none⟩ = v) : ∀ o, (w.alloc o).cell? ⟨g, j, none⟩ = v :=
  fun _ => (World.cell?_of_block (a := ⟨g, j, none⟩) (Below.heap_alloc _ _ _ hg)).trans h
theorem cell_alloc_any {w : World} {a : Addr} {v : Value} (h : w.cell? a = some v) {o : Obj} : (w.alloc o).cell? a = some v :=
  (World.cell?_of_block (Below.heap_alloc _ _ _ (by
    rcases Nat.lt_or_ge a.block w.heap.size with h' | h'
    · exact h'
    · simp [World.cell?, Array.getElem?_eq_none h'] at h))).trans h
theorem cells_new (W : World) (c : Array Value) (t : TypeId) (b : Nat) (hb : b = W.heap.size) (l : List Value) (hl : l = c.toList) :
    ∀ j u, l[j]? = some u → (W.alloc (.cells c t)).cell? ((⟨b, 0, none⟩ : Addr).add j) = some u := by
  subst hb hl
  intro j u hu
  have h := cell_of (alloc_new W (.cells c t)) (0 + j)
  rw [Nat.zero_add] at h
  have e : (⟨W.heap.size, 0, none⟩ : Addr).add j = ⟨W.heap.size, j, none⟩ := by
    cases j <;> simp [Addr.add]
  rw [e, h, ← hu]
  simp

/-- make([]T, n) in whatever world. -/
theorem make_run {P : Program} {t e : TypeId} {i : TypeInfo} {z : Value} (ht : P.underlying t = some (.slice e)) (hi : P.info? e = some i) (hz : i.zero = some z) (n : Nat)
    (hbytes : i.bytes * n ≤ 281474976710656) (h63 : n ≤ maxLen) : ∃ Z : Array Value, Hid (Z = madeCells z.cells (n * i.size)) ∧ Z.size = n * i.size ∧
      ∀ W : World, (Instr.makeSlice t (.int .i64 (n : Int)) (.int .i64 (n : Int))).run P W = .ok (.slice (some ⟨W.heap.size, 0, none⟩) n n) (W.alloc (.cells Z e)) := by
  refine ⟨_, Lib.hid rfl, size_madeCells _ _, fun W => ?_⟩
  have h63' : (n : Int) ≤ 9223372036854775807 := by
    have h := h63
    simp [maxLen] at h
    omega
  have hb' : (i.bytes : Int) * (n : Int) ≤ 281474976710656 := by
    have h : ((i.bytes * n : Nat) : Int) ≤ 281474976710656 := by omega
    rwa [Int.natCast_mul] at h
  have hr := run_make (P := P) W t e i z ht hi hz .i64 .i64 n n (by omega) (Int.le_refl _) hb' h63'
  simpa only [Int.toNat_natCast] using hr

/-- An append onto a row of the call's own, of whatever slice: nil, empty, or elements that lie somewhere. -/
theorem append_src {P : Program} {w : World} {ops : Array Oper} {rest : List Oper} {o : Oper} {a : Act} {Q : Exit → Act → World → Prop} (hgd : o.guard = none) (s x : Operand) (t : TypeId)
    (ho : o.op = .call { callee := .builtin .append, args := #[s, x], argTypes := #[t, t] })
    (base : Nat) (e : TypeId) (i : TypeInfo) (z : Value) (size bytes : Nat) (ht : P.underlying t = some (.slice e)) (hi : P.info? e = some i) (hz : i.zero = some z)
    (hsize : i.size = size) (hby : i.bytes = bytes) (hzs : z.cells.size = size) (hsz : 0 < size)
    (v : Value) (n : Nat) (xs : List Value) (hs : a.eval s = v) (hown : w.ownsRow base e size v n xs)
    (A : Option Addr) (m c : Nat) (news : List Value) (hx : a.eval x = .slice A m c) (hl : news.length = m * size) (hnil : A = none → m = 0 ∧ c = 0)
    (hnews : ∀ ad, A = some ad → ∀ j u, news[j]? = some u → w.cell? (ad.add j) = some u) (h1 : ∀ u ∈ news, u.oneCell' = true)
    (h63 : n + m ≤ maxLen) (hbytes : (n + m) * bytes ≤ 140737488355328) (hbase : base ≤ w.heap.size)
    (h : ∀ v' w', w'.ownsRow base e size v' (n + m) (xs ++ news) → w.grownBy w' v.ownBlock → wpList P ops Q rest (a.put o.dst v') w') : wpList P ops Q (o :: rest) a w := by
  cases A with
  | none =>
    obtain ⟨rfl, rfl⟩ := hnil rfl
    obtain rfl : news = [] := List.eq_nil_of_length_eq_zero (by simpa using hl)
    refine wpList_append_own_none hgd s x t ho base e i size ht hi v n xs hs hown hx (h v w (by simpa using hown) ⟨rfl, rfl, rfl, Nat.le_refl _, fun _ _ _ => rfl⟩)
  | some ad =>
    exact wpList_append_own w hgd s x t ho base e i z size bytes ht hi hz hsize hby hzs hsz v n xs hs hown ad m c news hx hl (hnews ad rfl) h1 h63 hbytes hbase fun v' w' h2 h3 _ => h v' w' h2 h3

/-- A slice that reads as the bytes l in w. -/
structure BytesIn (w : World) (a : Option Addr) (n cap : Nat) (l : List Int) : Prop where
  len : l.length = n
  nil : a = none → n = 0 ∧ cap = 0
  le : n ≤ cap
  max : cap ≤ maxLen
  cells : ∀ x, a = some x → ∀ j u, (l.map (Value.int .u8))[j]? = some u → w.cell? (x.add j) = some u
  fits : ∀ c ∈ l, 0 ≤ c ∧ c ≤ 255

theorem wf_u8 {c : Int} (h : (Lit.int .u8 c).wf = true) : 0 ≤ c ∧ c ≤ 255 := by
  simpa [Lit.wf, IntKind.min, IntKind.max, IntKind.bits, IntKind.signed] using h

theorem BytesIn.of_row {w : World} {a : Option Addr} {n cap : Nat} {zs : List Int} (h : IsRow .u8 w a n cap zs) : BytesIn w a n cap (zs.take n) := by
  rcases h with ⟨rfl, rfl, rfl, rfl⟩ | ⟨x, rfl, h1, h2, h3, h4, h5⟩
  · exact ⟨rfl, fun _ => ⟨rfl, rfl⟩, Nat.le_refl _, Nat.zero_le _, fun x hx => (by cases hx), fun c hc => (by simp at hc)⟩
  · refine ⟨by simp; omega, fun h => (by cases h), h1, h2, fun y hy j u hu => ?_, fun c hc => wf_u8 (h5 c (List.mem_of_mem_take hc))⟩
    cases hy
    simp only [List.getElem?_map, Option.map_eq_some_iff] at hu
    obtain ⟨c, hc, rfl⟩ := hu
    have hj : j < n := by
      rcases Nat.lt_or_ge j n with h | h
      · exact h
      · rw [List.getElem?_eq_none (by simp; omega)] at hc; cases hc
    rw [List.getElem?_take_of_lt hj] at hc
    rw [h4 j (by omega)]
    simp [List.getD, hc]

theorem cell_lt {w : World} {x : Addr} {v : Value} (h : w.cell? x = some v) : x.block < w.heap.size := by
  rcases Nat.lt_or_ge x.block w.heap.size with h' | h'
  · exact h'
  · simp [World.cell?, Array.getElem?_eq_none h'] at h

theorem add_block (x : Addr) (j : Nat) : (x.add j).block = x.block := by
  unfold Addr.add; split <;> rfl

theorem BytesIn.below {w w' : World} {a : Option Addr} {n cap : Nat} {l : List Int} (h : BytesIn w a n cap l) (hb : Below w.heap.size w w') : BytesIn w' a n cap l :=
  ⟨h.len, h.nil, h.le, h.max, fun x hx j u hu => by
    have hc := h.cells x hx j u hu
    exact (hb.cell (p := x.add j) (cell_lt hc)).trans hc, h.fits⟩

theorem BytesIn.form {w : World} {a : Option Addr} {n cap : Nat} {l : List Int} (h : BytesIn w a n cap l) (hn : 0 < n) :
    ∃ b off, a = some ⟨b, off, none⟩ ∧ b < w.heap.size ∧ ∀ j c, l[j]? = some c → w.cell? ⟨b, off + j, none⟩ = some (.int .u8 c) := by
  cases a with
  | none => have := (h.nil rfl).1; omega
  | some x =>
    obtain ⟨b, off, sp⟩ := x
    have h0 := h.cells _ rfl 0 (.int .u8 (l[0]'(by have := h.len; omega))) (by simp [h.len, hn])
    have hs : sp = none := by
      cases sp with
      | none => rfl
      | some s => simp [Addr.add, World.cell?] at h0; split at h0 <;> simp at h0
    subst hs
    refine ⟨b, off, rfl, by have := cell_lt h0; rwa [add_block] at this, fun j c hj => ?_⟩
    have := h.cells _ rfl j (.int .u8 c) (by simp [hj])
    rw [← this]
    cases j <;> simp [Addr.add]

theorem addr_add (b off i : Nat) : (⟨b, off, none⟩ : Addr).add i = ⟨b, off + i, none⟩ := by
  cases i <;> simp [Addr.add]

theorem BytesIn.at {w : World} {b off : Nat} {n cap : Nat} {l : List Int} (h : BytesIn w (some ⟨b, off, none⟩) n cap l) {j : Nat} (hj : j < l.length) : w.cell? ⟨b, off + j, none⟩ = some (.int .u8 l[j]) := by
  rw [← h.cells _ rfl j (.int .u8 l[j]) (by simp [hj])]
  cases j <;> simp [Addr.add]

/-- copy(dst, src) into a row that is known whole: the world behind it is named. -/
theorem copy_run {P : Program} {w : World} {dT sT elem : TypeId} (ty : TypeId) (g off dLen dCap sLen sCap : Nat) (a : Addr) (cur : Array Value) (t : TypeId) (cs : List Value)
    (hu : P.underlying dT = some (.slice elem)) (hs : (P.info? elem).map (·.size) = some 1) (hg : w.heap[g]? = some (.cells cur t (0, 0))) (hn : cs.length = Nat.min sLen dLen)
    (hsrc : ∀ j v, cs[j]? = some v → w.cell? (a.add j) = some v) (hfit : off + cs.length ≤ cur.size) (h1 : ∀ v ∈ cs, v.oneCell' = true) :
    ∃ w', (Builtin.copy_ #[dT, sT] ty #[.slice (some ⟨g, off, none⟩) dLen dCap, .slice (some a) sLen sCap]).run P w = .ok (.int .i64 (cs.length : Int)) w' ∧
      w'.heap[g]? = some (.cells (splice cur.toList off cs).toArray t (0, 0)) ∧ Wrote (fun k => k = g) w w' ∧ w'.heap.size = w.heap.size := by
  refine ⟨_, run_copy_row (P := P) w dT sT ty elem g off dLen dCap a sLen sCap cur t cs hu hs hg hn hsrc hfit h1, ?_, ?_, ?_⟩
  · rw [setRow_heap _ _ _ _ _ _ hg]
    simp [splice]
  · exact ⟨rfl, rfl, rfl, by simp [World.setRow], fun k _ hk => setRow_other _ _ _ _ hk⟩
  · simp [World.setRow]

theorem BytesIn.of_own {w : World} {B n : Nat} {e : TypeId} {v : Value} {l : List Int} (h : w.ownsRow B e 1 v n (l.map (Value.int .u8))) (hf : ∀ c ∈ l, 0 ≤ c ∧ c ≤ 255) :
    (v = .slice none 0 0 ∧ n = 0 ∧ l = []) ∨ ∃ g cap, v = .slice (some ⟨g, 0, none⟩) n cap ∧ BytesIn w (some ⟨g, 0, none⟩) n cap l := by
  have hl : l.length = n := by have := h.1; simpa using this
  rcases h.2 with ⟨hv, hn⟩ | ⟨g, cap, cur, hv, _, hg, hnc, hcm, hcs, ht⟩
  · exact .inl ⟨hv, hn, List.eq_nil_of_length_eq_zero (by omega)⟩
  · refine .inr ⟨g, cap, hv, hl, fun h => (by cases h), hnc, hcm, fun x hx j u hu => ?_, hf⟩
    cases hx
    rw [addr_add, Nat.zero_add, cell_of hg j, ← hu, ← ht, Nat.mul_one]
    have hj : j < n := by
      rcases Nat.lt_or_ge j n with h | h
      · exact h
      · rw [List.getElem?_eq_none (by simp; omega)] at hu; cases hu
    rw [List.getElem?_take_of_lt hj]
    simp

/-- What an append wants to know of a source that reads as bytes. -/
theorem BytesIn.src {w : World} {a : Option Addr} {n cap : Nat} {l : List Int} (h : BytesIn w a n cap l) :
    (l.map (Value.int .u8)).length = n * 1 ∧ (a = none → n = 0 ∧ cap = 0) ∧ (∀ ad, a = some ad → ∀ j u, (l.map (Value.int .u8))[j]? = some u → w.cell? (ad.add j) = some u) ∧ ∀ u ∈ l.map (Value.int .u8), u.oneCell' = true :=
  ⟨by simp [h.len], h.nil, h.cells, fun u hu => (by obtain ⟨c, _, rfl⟩ := List.mem_map.1 hu; rfl)⟩

theorem BytesIn.own {w : World} {B n : Nat} {e : TypeId} {v : Value} {l : List Int} (h : w.ownsRow B e 1 v n (l.map (Value.int .u8))) (hf : ∀ c ∈ l, 0 ≤ c ∧ c ≤ 255) :
    ∃ a cap, v = .slice a n cap ∧ BytesIn w a n cap l := by
  rcases BytesIn.of_own h hf with ⟨rfl, rfl, rfl⟩ | ⟨g, cap, rfl, hb⟩
  · exact ⟨none, 0, rfl, rfl, fun _ => ⟨rfl, rfl⟩, Nat.le_refl _, Nat.zero_le _, fun x hx => (by cases hx), fun c hc => (by cases hc)⟩
  · exact ⟨_, cap, rfl, hb⟩

/-- The length of a slice. -/
def lenOf : Value → Nat
  | .slice _ n _ => n
  | _ => 0

theorem BytesIn.drewN {w : World} {a : Option Addr} {n cap : Nat} {l : List Int} (h : BytesIn w a n cap l) (k : Nat) : BytesIn (w.drewN k) a n cap l :=
  h.below (below_drewN (Below.refl _ _) k)

end Go.Rd
