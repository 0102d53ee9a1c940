/- Parts of the proof, merged: Sb. -/
import Derived.Test.YtnkhfdnahnphdaaDoorZc07
import Derived.Test.YtnkhfdnahnphdaaDoorZc12
section
namespace Go.Proofs.YtnkhfdnahnphdaaDoor
open Go.ChangeShapes Go.WideShapes Go.ChangeAt Go.RowKit Go.Rd
open Go.Proofs.YtnkhfdnahnphdaaDoorW.PrintWords Go.Proofs.YtnkhfdnahnphdaaDoorW.PrintLast Go.Proofs.YtnkhfdnahnphdaaDoorW.PrintMore
set_option linter.unusedVariables false
namespace Sb
abbrev tMem : TypeId := 79
abbrev tN : TypeId := 74
abbrev tH : TypeId := 118
abbrev tAns : TypeId := 42
abbrev tStep : TypeId := 33
/-- A node; a handle. -/
structure SN where
  dir : Bool
  mode : Int
  bs : List Int
  time : Int
  nm : ByteArray
structure SH where
  node : Nat
  at_ : Int
  listed : Int
  cl : Bool
  ro : Bool
def NodeK (w : World) (B : Nat) (x : SN) (cs : List Value) : Prop := ∃ v, cs = [.bool x.dir, .int .i64 x.mode, v, .int .i64 x.time, .string x.nm] ∧ w.ownsRow B 5 1 v x.bs.length (x.bs.map (.int .u8)) ∧ ∀ c ∈ x.bs, 0 ≤ c ∧ c ≤ 255
def SHIs (w : World) (hb : Nat) (h : SH) : Prop := w.heap[hb]? = some (.cells #[.int .i64 h.node, .int .i64 h.at_, .int .i64 h.listed, .bool h.cl, .bool h.ro] tH (0, 0))
def MemIs (w : World) (m : Nat) (nv av dv : Value) (mb : Nat) : Prop := w.heap[m]? = some (.cells #[nv, av, dv, .map (some mb)] tMem (0, 0))
abbrev NodesIs (w : World) (B : Nat) (dv : Value) (l : List SN) : Prop := OwnRow (NodeK w B) tN 5 w B dv l
section
variable {w w' : World} {B m hb mb : Nat} {nv av dv : Value} {l : List SN} {h : SH} {S : Nat → Prop}
theorem SHIs.wrote (hh : SHIs w hb h) (hw : Wrote S w w') (h1 : ¬ S hb) : SHIs w' hb h := (hw.block hb (lt_of_heap hh) h1).trans hh
theorem MemIs.wrote (hh : MemIs w m nv av dv mb) (hw : Wrote S w w') (h1 : ¬ S m) : MemIs w' m nv av dv mb := (hw.block m (lt_of_heap hh) h1).trans hh
theorem NodeK.wrote {x : SN} {cs : List Value} (hk : NodeK w B x cs) (hw : Wrote S w w') (hS : ∀ k c fr, S k → w.heap[k]? ≠ some (.cells c 5 fr)) : NodeK w' B x cs := by
  obtain ⟨v, rfl, ho, hf⟩ := hk
  refine ⟨v, rfl, own_move ho (fun k hk => hw.block k (own_lt ho k hk) (fun hs => ?_)), hf⟩
  obtain ⟨c, hc⟩ := own_typed ho k hk
  exact hS k c _ hs hc
theorem NodesIs.wrote (hn : NodesIs w B dv l) (hw : Wrote S w w') (hS : ∀ k c fr, S k → w.heap[k]? ≠ some (.cells c 5 fr)) (hd : ∀ k, dv.ownBlock = some k → ¬ S k) : NodesIs w' B dv l := by
  obtain ⟨inner, ho, hr⟩ := hn
  exact ⟨inner, own_move ho (fun k hk => hw.block k (own_lt ho k hk) (hd k hk)), hr.imp_ (fun p c hp => NodeK.wrote hp hw hS)⟩
theorem NodesIs.below (hn : NodesIs w B dv l) (hb : Below w.heap.size w w') : NodesIs w' B dv l := NodesIs.wrote hn (Wrote.of_below (S := fun _ => False) hb) (fun _ _ _ h => h.elim) (fun _ _ => id)
theorem SHIs.below (hh : SHIs w hb h) (hw : Below w.heap.size w w') : SHIs w' hb h := hh.wrote (Wrote.of_below (S := fun _ => False) hw) id
theorem MemIs.below (hh : MemIs w m nv av dv mb) (hb : Below w.heap.size w w') : MemIs w' m nv av dv mb := hh.wrote (Wrote.of_below (S := fun _ => False) hb) id
/-- A node's cells. -/
theorem NodesIs.at (hn : NodesIs w B dv l) {i : Nat} (hi : i < l.length) : ∃ nb cap v, dv = .slice (some ⟨nb, 0, none⟩) l.length cap ∧ l.length ≤ cap ∧ (∃ c, w.heap[nb]? = some (.cells c tN (0, 0))) ∧
    (w.cell? ⟨nb, i * 5, none⟩ = some (.bool l[i].dir) ∧ w.cell? ⟨nb, i * 5 + 1, none⟩ = some (.int .i64 l[i].mode) ∧ w.cell? ⟨nb, i * 5 + 2, none⟩ = some v ∧ w.cell? ⟨nb, i * 5 + 3, none⟩ = some (.int .i64 l[i].time) ∧ w.cell? ⟨nb, i * 5 + 4, none⟩ = some (.string l[i].nm)) ∧
    w.ownsRow B 5 1 v l[i].bs.length (l[i].bs.map (.int .u8)) ∧ (∀ c ∈ l[i].bs, 0 ≤ c ∧ c ≤ 255) ∧ ∀ j, w.frozen? ⟨nb, j, none⟩ = false := by
  obtain ⟨inner, ho, hr⟩ := hn
  obtain ⟨nb, cap, hv, hle, c, hc⟩ : ∃ nb cap, dv = .slice (some ⟨nb, 0, none⟩) l.length cap ∧ l.length ≤ cap ∧ ∃ c, w.heap[nb]? = some (.cells c tN (0, 0)) := by
    rcases ho.2 with ⟨_, h0⟩ | ⟨g, cap, cur, hv, _, hg, h1, _⟩
    · omega
    · exact ⟨g, cap, hv, h1, cur, hg⟩
  subst hv
  obtain ⟨v, hk, hov, hf⟩ := hr.2 i _ (List.getElem?_eq_getElem hi)
  have hx : ∀ j, j < 5 → w.cell? ⟨nb, i * 5 + j, none⟩ = ([.bool l[i].dir, .int .i64 l[i].mode, v, .int .i64 l[i].time, .string l[i].nm] : List Value)[j]? := by
    intro j hj
    rw [ho.cellAt (i * 5 + j) (by omega), ← hk, List.getElem?_take_of_lt hj, List.getElem?_drop]
  exact ⟨nb, cap, v, rfl, hle, ⟨c, hc⟩, ⟨hx 0 (by omega), hx 1 (by omega), hx 2 (by omega), hx 3 (by omega), hx 4 (by omega)⟩, hov, hf, fun j => free_of hc j⟩
end
/-- A file's state; its time behind a step. -/
def stOf (h : SH) (x : SN) : St := ⟨h.at_, h.cl, h.ro, x.bs⟩
def timeOf (s : St) (t : Int) (x : Sx) : Int := if x.1.op = 18 then (if s.ro = true then t else 0) else if (doF s x).1.e = 0 ∧ (x.1.op = 14 ∨ x.1.op = 15 ∨ x.1.op = 17) then 0 else t
def nodeOf (h : SH) (n : SN) (x : Sx) : SN := { n with bs := (doF (stOf h n) x).2.bs, time := timeOf (stOf h n) n.time x }
def handOf (h : SH) (n : SN) (x : Sx) : SH := { h with at_ := (doF (stOf h n) x).2.at_, cl := (doF (stOf h n) x).2.cl }
theorem two_old (w : World) (o1 o2 : Obj) : ((w.alloc o1).alloc o2).heap[w.heap.size]? = some o1 := alloc_keeps (alloc_new w o1) o2
theorem two_new (w : World) (o1 o2 : Obj) : ((w.alloc o1).alloc o2).heap[w.heap.size + 1]? = some o2 := by simpa using alloc_new (w.alloc o1) o2
theorem two_below (w : World) (o1 o2 : Obj) : Below w.heap.size w ((w.alloc o1).alloc o2) := ((Below.refl _ _).alloc (Nat.le_refl _) o1).alloc (by simp) o2
/-- What is so behind a step, as the answer's block is written. -/
structure Core (w W : World) (hb B : Nat) (dv : Value) (l : List SN) (h : SH) (v : Value) (d : List Int) (ab : Nat) : Prop where
  hand : SHIs W hb h
  nodes : NodesIs W B dv l
  wr : Wrote (fun k => k = hb ∨ dv.ownBlock = some k) w W
  row : W.ownsRow w.heap.size 5 1 v d.length (d.map (.int .u8))
  typ : Typed W ab tAns
  new : w.heap.size ≤ ab
theorem nodes_set {W : World} {B ab : Nat} {dv : Value} {l : List SN} {t : TypeId} (h : NodesIs W B dv l) {p : Addr} (ht : Typed W p.block t) (h5 : t ≠ 5) (hn : t ≠ tN) (u : Value) : NodesIs (W.setCell p u) B dv l := by
  obtain ⟨c, fr, hc⟩ := ht
  refine NodesIs.wrote (S := fun k => k = p.block) h ((Wrote.refl (fun k => k = p.block) W).setCell (fun _ => rfl) u) (fun k c' fr' hk e => ?_) (fun k hk e => ?_)
  · subst hk; rw [hc] at e; injection e with e; injection e with _ e; exact h5 e
  · subst e
    obtain ⟨inner, ho, _⟩ := h
    obtain ⟨c', hc'⟩ := own_typed ho _ hk
    rw [hc] at hc'
    injection hc' with e
    injection e with _ e
    exact hn e
theorem row_set {W : World} {B n : Nat} {v : Value} {xs : List Value} {t : TypeId} (h : W.ownsRow B 5 1 v n xs) {p : Addr} (ht : Typed W p.block t) (h5 : t ≠ 5) (u : Value) : (W.setCell p u).ownsRow B 5 1 v n xs := by
  obtain ⟨c, fr, hc⟩ := ht
  refine own_move h (fun k hk => Below.heap_setCell _ _ _ _ (fun e => ?_))
  subst e
  obtain ⟨c', hc'⟩ := own_typed h _ hk
  rw [hc] at hc'
  injection hc' with e
  injection e with _ e
  exact h5 e
theorem hand_set {W : World} {hb : Nat} {h : SH} {t : TypeId} (hh : SHIs W hb h) {p : Addr} (ht : Typed W p.block t) (h5 : t ≠ tH) (u : Value) : SHIs (W.setCell p u) hb h := by
  obtain ⟨c, fr, hc⟩ := ht
  refine (Below.heap_setCell _ _ _ _ (fun e => ?_)).trans hh
  subst e
  have hh' : W.heap[p.block]? = _ := hh
  rw [hc] at hh'
  injection hh' with e
  injection e with _ e
  exact h5 e
theorem Core.set {w W : World} {hb B : Nat} {dv : Value} {l : List SN} {h : SH} {v : Value} {d : List Int} {ab : Nat} (c : Core w W hb B dv l h v d ab) (j : Nat) (u : Value) : Core w (W.setCell ⟨ab, j, none⟩ u) hb B dv l h v d ab where
  hand := hand_set (p := ⟨ab, j, none⟩) c.hand c.typ (by decide) u
  nodes := nodes_set (ab := ab) (p := ⟨ab, j, none⟩) c.nodes c.typ (by decide) (by decide) u
  wr := wrote_new (p := ⟨ab, j, none⟩) c.wr c.new u
  row := row_set (p := ⟨ab, j, none⟩) c.row c.typ (by decide) u
  typ := c.typ.set _ u
  new := c.new
theorem Core.drewN {w W : World} {hb B : Nat} {dv : Value} {l : List SN} {h : SH} {v : Value} {d : List Int} {ab : Nat} (c : Core w W hb B dv l h v d ab) (n : Nat) : Core w (W.drewN n) hb B dv l h v d ab where
  hand := c.hand
  nodes := NodesIs.below c.nodes (pw_below_drewN (Below.refl _ _) n)
  wr := c.wr.drewN n
  row := pw_own_below c.row (pw_below_drewN (Below.refl _ _) n)
  typ := c.typ
  new := c.new
/-- What a step on an open file leaves. -/
def FilePost (w : World) (hb B : Nat) (dv : Value) (l : List SN) (i : Nat) (a : Ans) (h' : SH) (n' : SN) (e : Ending) (w' : World) : Prop :=
  ∃ v, e = .returned (ansVal a.e a.n a.off v) ∧ w'.ownsRow w.heap.size 5 1 v a.data.length (a.data.map (.int .u8)) ∧ SHIs w' hb h' ∧ NodesIs w' B dv (l.set i n') ∧ Wrote (fun k => k = hb ∨ dv.ownBlock = some k) w w'
theorem Core.post {w W : World} {hb B : Nat} {dv : Value} {l : List SN} {i : Nat} {h' : SH} {n' : SN} {v : Value} {a : Ans} {ab : Nat} (c : Core w W hb B dv (l.set i n') h' v a.data ab) : FilePost w hb B dv l i a h' n' (.returned (ansVal a.e a.n a.off v)) W :=
  ⟨v, rfl, c.row, c.hand, c.nodes, c.wr⟩
theorem Core.drew {w W : World} {hb B : Nat} {dv : Value} {l : List SN} {h : SH} {v : Value} {d : List Int} {ab : Nat} (c : Core w W hb B dv l h v d ab) : Core w W.drew hb B dv l h v d ab := c.drewN 1
theorem Core.hset {w W : World} {hb B : Nat} {dv : Value} {l : List SN} {h : SH} {v : Value} {d : List Int} {ab : Nat} (c : Core w W hb B dv l h v d ab) (j : Nat) (u : Value) {h' : SH} (hh : SHIs (W.setCell ⟨hb, j, none⟩ u) hb h') : Core w (W.setCell ⟨hb, j, none⟩ u) hb B dv l h' v d ab where
  hand := hh
  nodes := nodes_set (ab := ab) (p := ⟨hb, j, none⟩) c.nodes (Typed.of c.hand) (by decide) (by decide) u
  wr := c.wr.setCell (p := ⟨hb, j, none⟩) (fun _ => .inl rfl) u
  row := row_set (p := ⟨hb, j, none⟩) c.row (Typed.of c.hand) (by decide) u
  typ := c.typ.set _ u
  new := c.new
theorem Core.setAt {w W : World} {hb B : Nat} {dv : Value} {l : List SN} {node : Nat} {at_ : Int} {listed : Int} {cl ro : Bool} {v : Value} {d : List Int} {ab : Nat} (c : Core w W hb B dv l ⟨node, at_, listed, cl, ro⟩ v d ab) (k : Int) : Core w (W.setCell ⟨hb, 1, none⟩ (.int .i64 k)) hb B dv l ⟨node, k, listed, cl, ro⟩ v d ab :=
  c.hset 1 _ (Go.Rd.heap_setCell_same (o := 1) c.hand _)
theorem Core.setCl {w W : World} {hb B : Nat} {dv : Value} {l : List SN} {node : Nat} {at_ : Int} {listed : Int} {cl ro : Bool} {v : Value} {d : List Int} {ab : Nat} (c : Core w W hb B dv l ⟨node, at_, listed, cl, ro⟩ v d ab) (k : Bool) : Core w (W.setCell ⟨hb, 3, none⟩ (.bool k)) hb B dv l ⟨node, at_, listed, k, ro⟩ v d ab :=
  c.hset 3 _ (Go.Rd.heap_setCell_same (o := 3) c.hand _)
theorem Reps.upd {α : Type} {R : α → List Value → Prop} {size : Nat} {ps : List α} {inner inner' : List Value} (h : Reps R size ps inner) (hl : inner'.length = inner.length) (i : Nat) (p' : α)
    (hR : R p' ((inner'.drop (i * size)).take size)) (h2 : ∀ k, (k < i * size ∨ i * size + size ≤ k) → inner'[k]? = inner[k]?) : Reps R size (ps.set i p') inner' := by
  refine ⟨by rw [hl, h.1, List.length_set], fun j p hj => ?_⟩
  by_cases e : j = i
  · subst e
    have hjl : j < ps.length := by have := (List.getElem?_eq_some_iff.1 hj).1; simpa using this
    rw [List.getElem?_set_self hjl] at hj
    cases hj
    exact hR
  · rw [List.getElem?_set_ne (fun e2 => e e2.symm)] at hj
    have h3 := h.2 j p hj
    have e2 : (inner'.drop (j * size)).take size = (inner.drop (j * size)).take size := by
      apply List.ext_getElem?
      intro k
      by_cases hk : k < size
      · rw [List.getElem?_take_of_lt hk, List.getElem?_take_of_lt hk, List.getElem?_drop, List.getElem?_drop]
        refine h2 _ ?_
        rcases Nat.lt_or_gt_of_ne e with hlt | hgt
        · left
          have := Nat.mul_le_mul_right size (show j + 1 ≤ i by omega)
          rw [Nat.add_mul, Nat.one_mul] at this
          omega
        · right
          have := Nat.mul_le_mul_right size (show i + 1 ≤ j by omega)
          rw [Nat.add_mul, Nat.one_mul] at this
          omega
      · rw [List.getElem?_eq_none (by simp; omega), List.getElem?_eq_none (by simp; omega)]
    rw [e2]
    exact h3
/-- A store into a node. -/
theorem nodes_store {W : World} {B nb cap i f : Nat} {dv : Value} {l : List SN} {u : Value} (h : NodesIs W B dv l) (hdv : dv = .slice (some ⟨nb, 0, none⟩) l.length cap) (hi : i < l.length) (hf : f < 5) (x' : SN)
    (hx : ∀ v0, NodeK W B l[i] [.bool l[i].dir, .int .i64 l[i].mode, v0, .int .i64 l[i].time, .string l[i].nm] → NodeK W B x' (([.bool l[i].dir, .int .i64 l[i].mode, v0, .int .i64 l[i].time, .string l[i].nm] : List Value).set f u)) :
    NodesIs (W.setCell ⟨nb, i * 5 + f, none⟩ u) B dv (l.set i x') := by
  subst hdv
  obtain ⟨inner, ho, hr⟩ := h
  obtain ⟨c, hc⟩ := own_typed ho nb rfl
  have hs := (ho.stored (i * 5 + f) u).1
  have hil := hr.1
  have hK : ∀ p cs, NodeK W B p cs → NodeK (W.setCell ⟨nb, i * 5 + f, none⟩ u) B p cs := fun p cs hp =>
    NodeK.wrote (S := fun k => k = nb) hp ((Wrote.refl (fun k => k = nb) W).setCell (fun _ => rfl) u) (fun k c' fr' hk e => by subst hk; rw [hc] at e; injection e with e; injection e with _ e; exact absurd e (by decide))
  refine ⟨inner.set (i * 5 + f) u, by rw [List.length_set]; exact hs, ?_⟩
  refine Reps.upd (hr.imp_ hK) (by simp) i x' ?_ (fun k hk => ?_)
  · obtain ⟨v0, he, ho2, hf2⟩ := hr.2 i _ (List.getElem?_eq_getElem hi)
    refine hK _ _ ?_
    have := hx v0 ⟨v0, rfl, ho2, hf2⟩
    rw [← he] at this
    have e2 : ((inner.set (i * 5 + f) u).drop (i * 5)).take 5 = ((inner.drop (i * 5)).take 5).set f u := by
      rw [List.drop_set, if_neg (by omega), show i * 5 + f - i * 5 = f by omega, List.take_set]
    rw [e2]
    exact this
  · rw [List.getElem?_set_ne (by omega)]
theorem Core.nset {w W : World} {hb B : Nat} {dv : Value} {l l' : List SN} {h : SH} {v : Value} {d : List Int} {ab nb : Nat} (c : Core w W hb B dv l h v d ab) (hnb : dv.ownBlock = some nb) (j : Nat) (u : Value) (hh : NodesIs (W.setCell ⟨nb, j, none⟩ u) B dv l') : Core w (W.setCell ⟨nb, j, none⟩ u) hb B dv l' h v d ab := by
  have ht : Typed W nb tN := by
    obtain ⟨inner, ho, _⟩ := c.nodes
    obtain ⟨c', hc'⟩ := own_typed ho nb hnb
    exact Typed.of hc'
  exact {
    hand := hand_set (p := ⟨nb, j, none⟩) c.hand ht (by decide) u
    nodes := hh
    wr := c.wr.setCell (p := ⟨nb, j, none⟩) (fun _ => .inr hnb) u
    row := row_set (p := ⟨nb, j, none⟩) c.row ht (by decide) u
    typ := c.typ.set _ u
    new := c.new }
theorem Core.setTime {w W : World} {hb B cap nb i : Nat} {dv : Value} {l : List SN} {h : SH} {v : Value} {d : List Int} {ab : Nat} (c : Core w W hb B dv l h v d ab) (hdv : dv = .slice (some ⟨nb, 0, none⟩) l.length cap) (hi : i < l.length) (t : Int) :
    Core w (W.setCell ⟨nb, i * 5 + 3, none⟩ (.int .i64 t)) hb B dv (l.set i { l[i] with time := t }) h v d ab :=
  c.nset (by rw [hdv]; rfl) _ _ (nodes_store c.nodes hdv hi (by omega) _ (fun v0 ⟨v1, e, h1, h2⟩ => ⟨v1, by simp only [List.set]; cases e; rfl, h1, h2⟩))
theorem Core.setBs {w W : World} {hb B cap nb i : Nat} {dv : Value} {l : List SN} {h : SH} {v : Value} {d : List Int} {ab : Nat} (c : Core w W hb B dv l h v d ab) (hdv : dv = .slice (some ⟨nb, 0, none⟩) l.length cap) (hi : i < l.length) {u : Value} {bs : List Int} (ho : W.ownsRow B 5 1 u bs.length (bs.map (.int .u8))) (hf : ∀ x ∈ bs, 0 ≤ x ∧ x ≤ 255) :
    Core w (W.setCell ⟨nb, i * 5 + 2, none⟩ u) hb B dv (l.set i { l[i] with bs := bs }) h v d ab := by
  have ht : Typed W nb tN := by
    obtain ⟨inner, ho, _⟩ := c.nodes
    obtain ⟨c', hc'⟩ := own_typed ho nb (by rw [hdv]; rfl)
    exact Typed.of hc'
  exact c.nset (by rw [hdv]; rfl) _ _ (nodes_store c.nodes hdv hi (by omega) _ (fun v0 _ => ⟨u, rfl, ho, hf⟩))
theorem Core.setData {w W : World} {hb B cap nb i : Nat} {dv : Value} {l : List SN} {h : SH} {v : Value} {d : List Int} {ab : Nat} (c : Core w W hb B dv l h v d ab) (hdv : dv = .slice (some ⟨nb, 0, none⟩) l.length cap) (hi : i < l.length) {u : Value} {bs : List Int} (ho : W.ownsRow B 5 1 u bs.length (bs.map (.int .u8))) (hf : ∀ x ∈ bs, 0 ≤ x ∧ x ≤ 255) (t : Int) :
    Core w ((W.setCell ⟨nb, i * 5 + 2, none⟩ u).setCell ⟨nb, i * 5 + 3, none⟩ (.int .i64 t)) hb B dv (l.set i { l[i] with bs := bs, time := t }) h v d ab := by
  have c1 := c.setBs hdv hi ho hf
  have c2 := c1.setTime (nb := nb) (cap := cap) (i := i) (by rw [List.length_set]; exact hdv) (by simpa using hi) t
  rw [List.set_set, List.getElem_set_self] at c2
  exact c2
theorem Core.below {w W w2 : World} {hb B : Nat} {dv : Value} {l : List SN} {h : SH} {v : Value} {d : List Int} {ab : Nat} (c : Core w W hb B dv l h v d ab) (hw : Below W.heap.size W w2) : Core w w2 hb B dv l h v d ab where
  hand := c.hand.below hw
  nodes := NodesIs.below c.nodes hw
  wr := c.wr.trans (Wrote.of_below hw)
  row := pw_own_below c.row hw
  typ := by obtain ⟨c', fr, h⟩ := c.typ; exact ⟨c', fr, (hw.block _ (lt_of_heap h)).trans h⟩
  new := c.new
theorem Core.node {w W : World} {hb B nb cap i : Nat} {dv : Value} {l : List SN} {h : SH} {v : Value} {d : List Int} {ab : Nat} (c : Core w W hb B dv l h v d ab) (hdv : dv = .slice (some ⟨nb, 0, none⟩) l.length cap) (hi : i < l.length) :
    ∃ u, W.cell? ⟨nb, i * 5 + 2, none⟩ = some u ∧ W.cell? ⟨nb, i * 5 + 3, none⟩ = some (.int .i64 l[i].time) ∧ W.frozen? ⟨nb, i * 5 + 2, none⟩ = false ∧ W.frozen? ⟨nb, i * 5 + 3, none⟩ = false := by
  obtain ⟨nb', cap', v', e, _, _, ⟨_, _, x2, x3, _⟩, _, _, hz⟩ := NodesIs.at c.nodes hi
  rw [hdv] at e
  simp only [Value.slice.injEq, Option.some.injEq, Addr.mk.injEq, and_true, true_and] at e
  obtain ⟨rfl, rfl⟩ := e
  exact ⟨v', x2, x3, hz _, hz _⟩
theorem Core.with_ {w W : World} {hb B : Nat} {dv : Value} {l : List SN} {h : SH} {v v' : Value} {d d' : List Int} {ab : Nat} (c : Core w W hb B dv l h v d ab) (ho : W.ownsRow w.heap.size 5 1 v' d'.length (d'.map (.int .u8))) : Core w W hb B dv l h v' d' ab := { c with row := ho }
theorem list_same {l : List SN} {i : Nat} (hi : i < l.length) : l.set i l[i] = l := by simp
set_option maxRecDepth 100000 in
set_option maxHeartbeats 2000000 in
theorem file_sync (m hb B mb : Nat) (nv av dv : Value) (l : List SN) (h : SH) (s : Stp) (w : World) (hop : s.op = 23) (hM : MemIs w m nv av dv mb) (hH : SHIs w hb h) (hN : NodesIs w B dv l) (hi : h.node < l.length) :
    Calls Tryd.prog 85 #[.pointer (some ⟨m, 0, none⟩), .pointer (some ⟨hb, 0, none⟩), s.val] w (FilePost w hb B dv l h.node ⟨0, 0, 0, []⟩ h l[h.node]) := by
  obtain ⟨op, name, other, flag, perm, hh, da, dl, dc, off, wh, n⟩ := s
  obtain ⟨node, at_, listed, cl, ro⟩ := h
  simp only at hop hi ⊢
  subst hop
  unfold Stp.val
  simp only
  go_enter Tryd.func85, Tryd.ntmps85
  go_upto_region 1 with fail
  obtain ⟨W, hW⟩ : ∃ W, ((w.alloc (.cells #[.int .i64 23, .string name, .string other, .int .i64 flag, .int .i64 perm, .int .i64 hh, .slice da dl dc, .int .i64 off, .int .i64 wh, .int .i64 n] tStep)).alloc (.cells #[.int .i64 0, .int .i64 0, .int .i64 0, .slice none 0 0, .slice none 0 0, .slice none 0 0] tAns)) = W := ⟨_, rfl⟩
  have hs0 := two_old w (.cells #[.int .i64 23, .string name, .string other, .int .i64 flag, .int .i64 perm, .int .i64 hh, .slice da dl dc, .int .i64 off, .int .i64 wh, .int .i64 n] tStep) (.cells #[.int .i64 0, .int .i64 0, .int .i64 0, .slice none 0 0, .slice none 0 0, .slice none 0 0] tAns)
  have ha0 := two_new w (.cells #[.int .i64 23, .string name, .string other, .int .i64 flag, .int .i64 perm, .int .i64 hh, .slice da dl dc, .int .i64 off, .int .i64 wh, .int .i64 n] tStep) (.cells #[.int .i64 0, .int .i64 0, .int .i64 0, .slice none 0 0, .slice none 0 0, .slice none 0 0] tAns)
  have hB0 := two_below w (.cells #[.int .i64 23, .string name, .string other, .int .i64 flag, .int .i64 perm, .int .i64 hh, .slice da dl dc, .int .i64 off, .int .i64 wh, .int .i64 n] tStep) (.cells #[.int .i64 0, .int .i64 0, .int .i64 0, .slice none 0 0, .slice none 0 0, .slice none 0 0] tAns)
  rw [hW] at hs0 ha0 hB0
  have hW2 : ∀ {P} {c : Code} {Q : Exit → Act → World → Prop} {a : Act}, c.wp P Q a W → c.wp P Q a _ := fun {P c Q a} h => hW.symm ▸ h
  refine hW2 ?_
  clear hW2 hW
  have hM1 := hM.below hB0
  have hH1 := hH.below hB0
  have hN1 := NodesIs.below hN hB0
  obtain ⟨nb, cap, v, rfl, hle, hnb, ⟨x0, x1, x2, x3, x4⟩, hov, hf, hz⟩ := NodesIs.at hN1 hi
  obtain ⟨vA, vc, rfl, hby⟩ := BytesIn.own hov hf
  have HBY := Lib.hid hby
  clear hby
  have m2 := (cell_of hM1 2).trans rfl
  have c0 := (cell_of hH1 0).trans rfl
  have c1 := (cell_of hH1 1).trans rfl
  have c3 := (cell_of hH1 3).trans rfl
  have c4 := (cell_of hH1 4).trans rfl
  have f1 := free_of hH1 1
  have f3 := free_of hH1 3
  have s0 := (cell_of hs0 0).trans rfl
  have s6 := (cell_of hs0 6).trans rfl
  have s7 := (cell_of hs0 7).trans rfl
  have s8 := (cell_of hs0 8).trans rfl
  have s9 := (cell_of hs0 9).trans rfl
  obtain ⟨⟨p0, p1, p2, p3, p4, p5⟩, q0, q1, q2, q3, q4, q5⟩ := cells6 ha0
  have htab : Typed W (w.heap.size + 1) tAns := Typed.of ha0
  have hcore : Core w W hb B _ l _ (.slice none 0 0) [] (w.heap.size + 1) := ⟨hH1, hN1, Wrote.of_below hB0, World.ownsRow_nil _ _ _ _, htab, Nat.le_add_right _ 1⟩
  have n1 : w.heap.size ≠ hb := blk_ne hs0 hH1 (by decide)
  have n2 : w.heap.size + 1 ≠ hb := blk_ne ha0 hH1 (by decide)
  have n3 : w.heap.size ≠ nb := by obtain ⟨c, hc⟩ := hnb; exact blk_ne hs0 hc (by decide)
  have n4 : w.heap.size + 1 ≠ nb := by obtain ⟨c, hc⟩ := hnb; exact blk_ne ha0 hc (by decide)
  have n5 : hb ≠ nb := by obtain ⟨c, hc⟩ := hnb; exact blk_ne hH1 hc (by decide)
  have HC := Lib.hid hcore
  have HLE := Lib.hid hle
  have HZ := Lib.hid hz
  have z2 := hz (node * 5 + 2)
  have z3 := hz (node * 5 + 3)
  have HF := Lib.hid hf
  have HM := Lib.hid hM1
  have HB0 := Lib.hid hB0
  have HOV := Lib.hid hov
  have HA0 := Lib.hid ha0
  have HS0 := Lib.hid hs0
  clear hle hz hf hN hH hM hN1 hH1 hM1 hB0 hs0 ha0 hov htab hnb hcore
  obtain ⟨sb, hsb⟩ : ∃ sb, w.heap.size = sb := ⟨_, rfl⟩
  rw [hsb] at s0 s6 s7 s8 s9 p0 p1 p2 p3 p4 p5 q0 q1 q2 q3 q4 q5 HC HA0 HS0 n1 n2 n3 n4 ⊢
  have HSB := Lib.hid hsb
  clear hsb
  go_quiet (fail)
  go_wp2_with fail
  refine bodyPost_ret (v := ansVal 0 0 0 (.slice none 0 0)) (by simp [results, Tryd.results85, go_sem, ansVal, p0, p1, p2, p3, p4, p5]) rfl ?_
  refine Core.post (a := ⟨0, 0, 0, []⟩) (ab := sb + 1) ?_
  rw [list_same hi]
  have hC := HC.out.drewN nq
  repeat (first | with_reducible exact hC | with_reducible refine Core.set ?_ _ _)
set_option maxRecDepth 100000 in
set_option maxHeartbeats 2000000 in
theorem file_closed (m hb B mb : Nat) (nv av dv : Value) (l : List SN) (h : SH) (s : Stp) (w : World) (hop : 12 ≤ s.op ∧ s.op ≤ 17) (hM : MemIs w m nv av dv mb) (hH : SHIs w hb h) (hN : NodesIs w B dv l) (hi : h.node < l.length) (hcl : h.cl = true) :
    Calls Tryd.prog 85 #[.pointer (some ⟨m, 0, none⟩), .pointer (some ⟨hb, 0, none⟩), s.val] w (FilePost w hb B dv l h.node ⟨3, 0, 0, []⟩ h l[h.node]) := by
  obtain ⟨op, name, other, flag, perm, hh, da, dl, dc, off, wh, n⟩ := s
  obtain ⟨node, at_, listed, cl, ro⟩ := h
  simp only at hop hcl hi ⊢
  subst hcl
  unfold Stp.val
  simp only
  go_enter Tryd.func85, Tryd.ntmps85
  go_upto_region 1 with fail
  obtain ⟨W, hW⟩ : ∃ W, ((w.alloc (.cells #[.int .i64 op, .string name, .string other, .int .i64 flag, .int .i64 perm, .int .i64 hh, .slice da dl dc, .int .i64 off, .int .i64 wh, .int .i64 n] tStep)).alloc (.cells #[.int .i64 0, .int .i64 0, .int .i64 0, .slice none 0 0, .slice none 0 0, .slice none 0 0] tAns)) = W := ⟨_, rfl⟩
  have hs0 := two_old w (.cells #[.int .i64 op, .string name, .string other, .int .i64 flag, .int .i64 perm, .int .i64 hh, .slice da dl dc, .int .i64 off, .int .i64 wh, .int .i64 n] tStep) (.cells #[.int .i64 0, .int .i64 0, .int .i64 0, .slice none 0 0, .slice none 0 0, .slice none 0 0] tAns)
  have ha0 := two_new w (.cells #[.int .i64 op, .string name, .string other, .int .i64 flag, .int .i64 perm, .int .i64 hh, .slice da dl dc, .int .i64 off, .int .i64 wh, .int .i64 n] tStep) (.cells #[.int .i64 0, .int .i64 0, .int .i64 0, .slice none 0 0, .slice none 0 0, .slice none 0 0] tAns)
  have hB0 := two_below w (.cells #[.int .i64 op, .string name, .string other, .int .i64 flag, .int .i64 perm, .int .i64 hh, .slice da dl dc, .int .i64 off, .int .i64 wh, .int .i64 n] tStep) (.cells #[.int .i64 0, .int .i64 0, .int .i64 0, .slice none 0 0, .slice none 0 0, .slice none 0 0] tAns)
  rw [hW] at hs0 ha0 hB0
  have hW2 : ∀ {P} {c : Code} {Q : Exit → Act → World → Prop} {a : Act}, c.wp P Q a W → c.wp P Q a _ := fun {P c Q a} h => hW.symm ▸ h
  refine hW2 ?_
  clear hW2 hW
  have hM1 := hM.below hB0
  have hH1 := hH.below hB0
  have hN1 := NodesIs.below hN hB0
  obtain ⟨nb, cap, v, rfl, hle, hnb, ⟨x0, x1, x2, x3, x4⟩, hov, hf, hz⟩ := NodesIs.at hN1 hi
  obtain ⟨vA, vc, rfl, hby⟩ := BytesIn.own hov hf
  have HBY := Lib.hid hby
  clear hby
  have m2 := (cell_of hM1 2).trans rfl
  have c0 := (cell_of hH1 0).trans rfl
  have c1 := (cell_of hH1 1).trans rfl
  have c3 := (cell_of hH1 3).trans rfl
  have c4 := (cell_of hH1 4).trans rfl
  have f1 := free_of hH1 1
  have f3 := free_of hH1 3
  have s0 := (cell_of hs0 0).trans rfl
  have s6 := (cell_of hs0 6).trans rfl
  have s7 := (cell_of hs0 7).trans rfl
  have s8 := (cell_of hs0 8).trans rfl
  have s9 := (cell_of hs0 9).trans rfl
  obtain ⟨⟨p0, p1, p2, p3, p4, p5⟩, q0, q1, q2, q3, q4, q5⟩ := cells6 ha0
  have htab : Typed W (w.heap.size + 1) tAns := Typed.of ha0
  have hcore : Core w W hb B _ l _ (.slice none 0 0) [] (w.heap.size + 1) := ⟨hH1, hN1, Wrote.of_below hB0, World.ownsRow_nil _ _ _ _, htab, Nat.le_add_right _ 1⟩
  have n1 : w.heap.size ≠ hb := blk_ne hs0 hH1 (by decide)
  have n2 : w.heap.size + 1 ≠ hb := blk_ne ha0 hH1 (by decide)
  have n3 : w.heap.size ≠ nb := by obtain ⟨c, hc⟩ := hnb; exact blk_ne hs0 hc (by decide)
  have n4 : w.heap.size + 1 ≠ nb := by obtain ⟨c, hc⟩ := hnb; exact blk_ne ha0 hc (by decide)
  have n5 : hb ≠ nb := by obtain ⟨c, hc⟩ := hnb; exact blk_ne hH1 hc (by decide)
  have HC := Lib.hid hcore
  have HLE := Lib.hid hle
  have HZ := Lib.hid hz
  have z2 := hz (node * 5 + 2)
  have z3 := hz (node * 5 + 3)
  have HF := Lib.hid hf
  have HM := Lib.hid hM1
  have HB0 := Lib.hid hB0
  have HOV := Lib.hid hov
  have HA0 := Lib.hid ha0
  have HS0 := Lib.hid hs0
  clear hle hz hf hN hH hM hN1 hH1 hM1 hB0 hs0 ha0 hov htab hnb hcore
  obtain ⟨sb, hsb⟩ : ∃ sb, w.heap.size = sb := ⟨_, rfl⟩
  rw [hsb] at s0 s6 s7 s8 s9 p0 p1 p2 p3 p4 p5 q0 q1 q2 q3 q4 q5 HC HA0 HS0 n1 n2 n3 n4 ⊢
  have HSB := Lib.hid hsb
  clear hsb
  obtain ⟨hop1, hop2⟩ := hop
  have e0 : (op == 18) = false := beq_eq_false_iff_ne.2 (by omega)
  have e1 : (op == 21) = false := beq_eq_false_iff_ne.2 (by omega)
  have e2 : (op == 22) = false := beq_eq_false_iff_ne.2 (by omega)
  have e3 : (op == 23) = false := beq_eq_false_iff_ne.2 (by omega)
  have e4 : (op == 19) = false := beq_eq_false_iff_ne.2 (by omega)
  have e5 : (op == 20) = false := beq_eq_false_iff_ne.2 (by omega)
  clear hop1 hop2
  go_quiet (fail)
  go_wp2_with fail
  refine bodyPost_ret (v := ansVal 3 0 0 (.slice none 0 0)) (by simp [results, Tryd.results85, go_sem, ansVal, p0, p1, p2, p3, p4, p5]) rfl ?_
  refine Core.post (a := ⟨3, 0, 0, []⟩) (ab := sb + 1) ?_
  rw [list_same hi]
  have hC := HC.out.drewN nq
  repeat (first | with_reducible exact hC | with_reducible refine Core.set ?_ _ _)
set_option maxRecDepth 100000 in
set_option maxHeartbeats 2000000 in
theorem file_close_ro (m hb B mb : Nat) (nv av dv : Value) (l : List SN) (h : SH) (s : Stp) (w : World) (hop : s.op = 18) (hM : MemIs w m nv av dv mb) (hH : SHIs w hb h) (hN : NodesIs w B dv l) (hi : h.node < l.length) (hro : h.ro = true) :
    Calls Tryd.prog 85 #[.pointer (some ⟨m, 0, none⟩), .pointer (some ⟨hb, 0, none⟩), s.val] w (FilePost w hb B dv l h.node ⟨0, 0, 0, []⟩ { h with cl := true } l[h.node]) := by
  obtain ⟨op, name, other, flag, perm, hh, da, dl, dc, off, wh, n⟩ := s
  obtain ⟨node, at_, listed, cl, ro⟩ := h
  simp only at hop hro hi ⊢
  subst hop hro
  unfold Stp.val
  simp only
  go_enter Tryd.func85, Tryd.ntmps85
  go_upto_region 1 with fail
  obtain ⟨W, hW⟩ : ∃ W, ((w.alloc (.cells #[.int .i64 18, .string name, .string other, .int .i64 flag, .int .i64 perm, .int .i64 hh, .slice da dl dc, .int .i64 off, .int .i64 wh, .int .i64 n] tStep)).alloc (.cells #[.int .i64 0, .int .i64 0, .int .i64 0, .slice none 0 0, .slice none 0 0, .slice none 0 0] tAns)) = W := ⟨_, rfl⟩
  have hs0 := two_old w (.cells #[.int .i64 18, .string name, .string other, .int .i64 flag, .int .i64 perm, .int .i64 hh, .slice da dl dc, .int .i64 off, .int .i64 wh, .int .i64 n] tStep) (.cells #[.int .i64 0, .int .i64 0, .int .i64 0, .slice none 0 0, .slice none 0 0, .slice none 0 0] tAns)
  have ha0 := two_new w (.cells #[.int .i64 18, .string name, .string other, .int .i64 flag, .int .i64 perm, .int .i64 hh, .slice da dl dc, .int .i64 off, .int .i64 wh, .int .i64 n] tStep) (.cells #[.int .i64 0, .int .i64 0, .int .i64 0, .slice none 0 0, .slice none 0 0, .slice none 0 0] tAns)
  have hB0 := two_below w (.cells #[.int .i64 18, .string name, .string other, .int .i64 flag, .int .i64 perm, .int .i64 hh, .slice da dl dc, .int .i64 off, .int .i64 wh, .int .i64 n] tStep) (.cells #[.int .i64 0, .int .i64 0, .int .i64 0, .slice none 0 0, .slice none 0 0, .slice none 0 0] tAns)
  rw [hW] at hs0 ha0 hB0
  have hW2 : ∀ {P} {c : Code} {Q : Exit → Act → World → Prop} {a : Act}, c.wp P Q a W → c.wp P Q a _ := fun {P c Q a} h => hW.symm ▸ h
  refine hW2 ?_
  clear hW2 hW
  have hM1 := hM.below hB0
  have hH1 := hH.below hB0
  have hN1 := NodesIs.below hN hB0
  obtain ⟨nb, cap, v, rfl, hle, hnb, ⟨x0, x1, x2, x3, x4⟩, hov, hf, hz⟩ := NodesIs.at hN1 hi
  obtain ⟨vA, vc, rfl, hby⟩ := BytesIn.own hov hf
  have HBY := Lib.hid hby
  clear hby
  have m2 := (cell_of hM1 2).trans rfl
  have c0 := (cell_of hH1 0).trans rfl
  have c1 := (cell_of hH1 1).trans rfl
  have c3 := (cell_of hH1 3).trans rfl
  have c4 := (cell_of hH1 4).trans rfl
  have f1 := free_of hH1 1
  have f3 := free_of hH1 3
  have s0 := (cell_of hs0 0).trans rfl
  have s6 := (cell_of hs0 6).trans rfl
  have s7 := (cell_of hs0 7).trans rfl
  have s8 := (cell_of hs0 8).trans rfl
  have s9 := (cell_of hs0 9).trans rfl
  obtain ⟨⟨p0, p1, p2, p3, p4, p5⟩, q0, q1, q2, q3, q4, q5⟩ := cells6 ha0
  have htab : Typed W (w.heap.size + 1) tAns := Typed.of ha0
  have hcore : Core w W hb B _ l _ (.slice none 0 0) [] (w.heap.size + 1) := ⟨hH1, hN1, Wrote.of_below hB0, World.ownsRow_nil _ _ _ _, htab, Nat.le_add_right _ 1⟩
  have n1 : w.heap.size ≠ hb := blk_ne hs0 hH1 (by decide)
  have n2 : w.heap.size + 1 ≠ hb := blk_ne ha0 hH1 (by decide)
  have n3 : w.heap.size ≠ nb := by obtain ⟨c, hc⟩ := hnb; exact blk_ne hs0 hc (by decide)
  have n4 : w.heap.size + 1 ≠ nb := by obtain ⟨c, hc⟩ := hnb; exact blk_ne ha0 hc (by decide)
  have n5 : hb ≠ nb := by obtain ⟨c, hc⟩ := hnb; exact blk_ne hH1 hc (by decide)
  have HC := Lib.hid hcore
  have HLE := Lib.hid hle
  have HZ := Lib.hid hz
  have z2 := hz (node * 5 + 2)
  have z3 := hz (node * 5 + 3)
  have HF := Lib.hid hf
  have HM := Lib.hid hM1
  have HB0 := Lib.hid hB0
  have HOV := Lib.hid hov
  have HA0 := Lib.hid ha0
  have HS0 := Lib.hid hs0
  clear hle hz hf hN hH hM hN1 hH1 hM1 hB0 hs0 ha0 hov htab hnb hcore
  obtain ⟨sb, hsb⟩ : ∃ sb, w.heap.size = sb := ⟨_, rfl⟩
  rw [hsb] at s0 s6 s7 s8 s9 p0 p1 p2 p3 p4 p5 q0 q1 q2 q3 q4 q5 HC HA0 HS0 n1 n2 n3 n4 ⊢
  have HSB := Lib.hid hsb
  clear hsb
  go_quiet (fail)
  go_wp2_with fail
  refine bodyPost_ret (v := ansVal 0 0 0 (.slice none 0 0)) (by simp [results, Tryd.results85, go_sem, ansVal, p0, p1, p2, p3, p4, p5]) rfl ?_
  refine Core.post (a := ⟨0, 0, 0, []⟩) (ab := sb + 1) ?_
  rw [list_same hi]
  have hC := (HC.out.drewN nq).setCl true
  repeat (first | with_reducible exact hC | with_reducible refine Core.set ?_ _ _)
set_option maxRecDepth 100000 in
set_option maxHeartbeats 2000000 in
theorem file_close_rw (m hb B mb : Nat) (nv av dv : Value) (l : List SN) (h : SH) (s : Stp) (w : World) (hop : s.op = 18) (hM : MemIs w m nv av dv mb) (hH : SHIs w hb h) (hN : NodesIs w B dv l) (hi : h.node < l.length) (hro : h.ro = false) :
    Calls Tryd.prog 85 #[.pointer (some ⟨m, 0, none⟩), .pointer (some ⟨hb, 0, none⟩), s.val] w (FilePost w hb B dv l h.node ⟨0, 0, 0, []⟩ { h with cl := true } { l[h.node] with time := 0 }) := by
  obtain ⟨op, name, other, flag, perm, hh, da, dl, dc, off, wh, n⟩ := s
  obtain ⟨node, at_, listed, cl, ro⟩ := h
  simp only at hop hro hi ⊢
  subst hop hro
  unfold Stp.val
  simp only
  go_enter Tryd.func85, Tryd.ntmps85
  go_upto_region 1 with fail
  obtain ⟨W, hW⟩ : ∃ W, ((w.alloc (.cells #[.int .i64 18, .string name, .string other, .int .i64 flag, .int .i64 perm, .int .i64 hh, .slice da dl dc, .int .i64 off, .int .i64 wh, .int .i64 n] tStep)).alloc (.cells #[.int .i64 0, .int .i64 0, .int .i64 0, .slice none 0 0, .slice none 0 0, .slice none 0 0] tAns)) = W := ⟨_, rfl⟩
  have hs0 := two_old w (.cells #[.int .i64 18, .string name, .string other, .int .i64 flag, .int .i64 perm, .int .i64 hh, .slice da dl dc, .int .i64 off, .int .i64 wh, .int .i64 n] tStep) (.cells #[.int .i64 0, .int .i64 0, .int .i64 0, .slice none 0 0, .slice none 0 0, .slice none 0 0] tAns)
  have ha0 := two_new w (.cells #[.int .i64 18, .string name, .string other, .int .i64 flag, .int .i64 perm, .int .i64 hh, .slice da dl dc, .int .i64 off, .int .i64 wh, .int .i64 n] tStep) (.cells #[.int .i64 0, .int .i64 0, .int .i64 0, .slice none 0 0, .slice none 0 0, .slice none 0 0] tAns)
  have hB0 := two_below w (.cells #[.int .i64 18, .string name, .string other, .int .i64 flag, .int .i64 perm, .int .i64 hh, .slice da dl dc, .int .i64 off, .int .i64 wh, .int .i64 n] tStep) (.cells #[.int .i64 0, .int .i64 0, .int .i64 0, .slice none 0 0, .slice none 0 0, .slice none 0 0] tAns)
  rw [hW] at hs0 ha0 hB0
  have hW2 : ∀ {P} {c : Code} {Q : Exit → Act → World → Prop} {a : Act}, c.wp P Q a W → c.wp P Q a _ := fun {P c Q a} h => hW.symm ▸ h
  refine hW2 ?_
  clear hW2 hW
  have hM1 := hM.below hB0
  have hH1 := hH.below hB0
  have hN1 := NodesIs.below hN hB0
  obtain ⟨nb, cap, v, rfl, hle, hnb, ⟨x0, x1, x2, x3, x4⟩, hov, hf, hz⟩ := NodesIs.at hN1 hi
  obtain ⟨vA, vc, rfl, hby⟩ := BytesIn.own hov hf
  have HBY := Lib.hid hby
  clear hby
  have m2 := (cell_of hM1 2).trans rfl
  have c0 := (cell_of hH1 0).trans rfl
  have c1 := (cell_of hH1 1).trans rfl
  have c3 := (cell_of hH1 3).trans rfl
  have c4 := (cell_of hH1 4).trans rfl
  have f1 := free_of hH1 1
  have f3 := free_of hH1 3
  have s0 := (cell_of hs0 0).trans rfl
  have s6 := (cell_of hs0 6).trans rfl
  have s7 := (cell_of hs0 7).trans rfl
  have s8 := (cell_of hs0 8).trans rfl
  have s9 := (cell_of hs0 9).trans rfl
  obtain ⟨⟨p0, p1, p2, p3, p4, p5⟩, q0, q1, q2, q3, q4, q5⟩ := cells6 ha0
  have htab : Typed W (w.heap.size + 1) tAns := Typed.of ha0
  have hcore : Core w W hb B _ l _ (.slice none 0 0) [] (w.heap.size + 1) := ⟨hH1, hN1, Wrote.of_below hB0, World.ownsRow_nil _ _ _ _, htab, Nat.le_add_right _ 1⟩
  have n1 : w.heap.size ≠ hb := blk_ne hs0 hH1 (by decide)
  have n2 : w.heap.size + 1 ≠ hb := blk_ne ha0 hH1 (by decide)
  have n3 : w.heap.size ≠ nb := by obtain ⟨c, hc⟩ := hnb; exact blk_ne hs0 hc (by decide)
  have n4 : w.heap.size + 1 ≠ nb := by obtain ⟨c, hc⟩ := hnb; exact blk_ne ha0 hc (by decide)
  have n5 : hb ≠ nb := by obtain ⟨c, hc⟩ := hnb; exact blk_ne hH1 hc (by decide)
  have HC := Lib.hid hcore
  have HLE := Lib.hid hle
  have HZ := Lib.hid hz
  have z2 := hz (node * 5 + 2)
  have z3 := hz (node * 5 + 3)
  have HF := Lib.hid hf
  have HM := Lib.hid hM1
  have HB0 := Lib.hid hB0
  have HOV := Lib.hid hov
  have HA0 := Lib.hid ha0
  have HS0 := Lib.hid hs0
  clear hle hz hf hN hH hM hN1 hH1 hM1 hB0 hs0 ha0 hov htab hnb hcore
  obtain ⟨sb, hsb⟩ : ∃ sb, w.heap.size = sb := ⟨_, rfl⟩
  rw [hsb] at s0 s6 s7 s8 s9 p0 p1 p2 p3 p4 p5 q0 q1 q2 q3 q4 q5 HC HA0 HS0 n1 n2 n3 n4 ⊢
  have HSB := Lib.hid hsb
  clear hsb
  go_quiet (fail)
  go_wp2_with fail
  refine bodyPost_ret (v := ansVal 0 0 0 (.slice none 0 0)) (by simp [results, Tryd.results85, go_sem, ansVal, p0, p1, p2, p3, p4, p5]) rfl ?_
  refine Core.post (a := ⟨0, 0, 0, []⟩) (ab := sb + 1) ?_
  have hC := ((HC.out.drewN nq).setCl true).setTime rfl hi 0
  repeat (first | with_reducible exact hC | with_reducible refine Core.set ?_ _ _)
end Sb
end Go.Proofs.YtnkhfdnahnphdaaDoor
end
