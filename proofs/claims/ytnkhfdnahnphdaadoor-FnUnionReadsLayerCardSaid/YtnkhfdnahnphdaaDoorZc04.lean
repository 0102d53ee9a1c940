/- Parts of the proof, merged: Ap, HsWalk, Se, ErWalk, WrWalk, WsWalk, WtWalk, OsWalk, TrWalk. -/
import Derived.ChangeSame
import Derived.ChangeVars
import Derived.Deep.AppendLies
import Derived.Deep.DeepCutAuto
import Derived.Deep.RegionHeld3
import Derived.Deep.RegionLaw
import Derived.JoinedOf
import Derived.LaidEql
import Derived.LaidLaws
import Derived.Maps.AppendAt
import Derived.RegionTactic
import Derived.RowKit
import Derived.RowKitTokens
import Derived.Test.YtnkhfdnahnphdaaDoorRows
import Derived.Test.YtnkhfdnahnphdaaDoorZc03
section
namespace Go.Proofs.YtnkhfdnahnphdaaDoor
open Go.RowKit Go.Rd Go.Proofs.YtnkhfdnahnphdaaDoorW.PrintWords Go.Proofs.YtnkhfdnahnphdaaDoorW.PrintLast Go.Proofs.YtnkhfdnahnphdaaDoorW.PrintMore
section
variable {P : Program} {w : World}
/-- An append of bytes onto a row of one's own. -/
theorem run_src (t ty e : TypeId) (base : Nat) (ht : P.underlying t = some (.slice e)) (hinfo : (P.info? e).map (fun i => (i.zero, i.size, i.bytes)) = some (some (.int .u8 0), 1, 1))
    (v : Value) (n : Nat) (xs : List Value) (hown : w.ownsRow base e 1 v n xs) (A : Option Addr) (m c : Nat) (l : List Int) (hB : BytesIn w A m c l) (hl : n + m ≤ 140737488355328) (hbase : base ≤ w.heap.size) :
    ∃ v' w', (Builtin.append_ #[t, t] ty #[v, .slice A m c]).run P w = .ok v' w' ∧ w'.ownsRow base e 1 v' (n + m) (xs ++ l.map (Value.int .u8)) ∧ w.grownBy w' v.ownBlock ∧ (v'.ownBlock = v.ownBlock ∨ v'.ownBlock = some w.heap.size) := by
  obtain ⟨i0, hi, hzz⟩ := Option.map_eq_some_iff.1 hinfo
  simp only [Prod.mk.injEq] at hzz
  obtain ⟨hz0, hz1, hz2⟩ := hzz
  cases A with
  | none =>
    obtain ⟨rfl, rfl⟩ := hB.nil rfl
    obtain rfl : l = [] := List.eq_nil_of_length_eq_zero hB.len
    exact ⟨v, w, run_append_owned_none (P := P) (w := w) base t ty e i0 1 ht hi v n xs hown, by simpa using hown, ⟨rfl, rfl, rfl, Nat.le_refl _, fun _ _ _ => rfl⟩, .inl rfl⟩
  | some ad =>
    obtain ⟨v', w', hr, h2, h3, _, h5⟩ := run_append_own_at (P := P) w base t ty e i0 (.int .u8 0) 1 1 ht hi hz0 hz1 hz2 rfl (by decide) v n xs hown ad m c (l.map (Value.int .u8)) (by simp [hB.len]) (hB.cells ad rfl) (hB.src).2.2.2 (by unfold maxLen; omega) (by omega) hbase
    exact ⟨v', w', hr, h2, h3, h5⟩
/-- An append of bytes within the room of a row that is known whole. -/
theorem run_room (t ty e : TypeId) (ht : P.underlying t = some (.slice e)) (hinfo : (P.info? e).map (fun i => (i.zero, i.size, i.bytes)) = some (some (.int .u8 0), 1, 1))
    (g n cap : Nat) (cur : Array Value) (hg : w.heap[g]? = some (.cells cur e (0, 0))) (hcap : cap ≤ maxLen) (hsz : cur.size = cap) (A : Option Addr) (m c : Nat) (l : List Int) (hB : BytesIn w A m c l) (hroom : n + m ≤ cap) :
    ∃ w', (Builtin.append_ #[t, t] ty #[.slice (some ⟨g, 0, none⟩) n cap, .slice A m c]).run P w = .ok (.slice (some ⟨g, 0, none⟩) (n + m) cap) w' ∧
      w'.heap[g]? = some (.cells (cur.toList.take n ++ l.map (Value.int .u8) ++ cur.toList.drop (n + m)).toArray e (0, 0)) ∧ Wrote (fun k => k = g) w w' ∧ w'.heap.size = w.heap.size := by
  obtain ⟨i0, hi, hzz⟩ := Option.map_eq_some_iff.1 hinfo
  simp only [Prod.mk.injEq] at hzz
  obtain ⟨hz0, hz1, hz2⟩ := hzz
  cases A with
  | none =>
    obtain ⟨rfl, rfl⟩ := hB.nil rfl
    obtain rfl : l = [] := List.eq_nil_of_length_eq_zero hB.len
    have hown : w.ownsRow 0 e 1 (.slice (some ⟨g, 0, none⟩) n cap) n (cur.toList.take (n * 1)) := ⟨by simp; omega, .inr ⟨g, cap, cur, rfl, Nat.zero_le _, hg, by omega, hcap, by omega, rfl⟩⟩
    refine ⟨w, by have := run_append_owned_none (P := P) (w := w) 0 t ty e i0 1 ht hi _ n _ hown; simpa using this, ?_, Wrote.refl _ _, rfl⟩
    rw [hg]; simp
  | some ad =>
    have hr := run_append_room (P := P) w t ty e i0 ht hi g n cap cur hg ad m c (l.map (Value.int .u8)) (by simp [hB.len, hz1]) (hB.cells ad rfl) (hB.src).2.2.2 hroom (by simp [hB.len, hz1]; omega)
    refine ⟨_, hr, ?_, ⟨rfl, rfl, rfl, by simp [World.setRow], fun k _ hk => setRow_other _ _ _ _ hk⟩, by simp [World.setRow]⟩
    rw [setRow_heap _ _ _ _ _ _ hg]
    simp [hz1, hB.len]
/-- append(nil, src...): a copy of its own. -/
theorem run_dup (t ty e : TypeId) (ht : P.underlying t = some (.slice e)) (hinfo : (P.info? e).map (fun i => (i.zero, i.size, i.bytes)) = some (some (.int .u8 0), 1, 1))
    (A : Option Addr) (m c : Nat) (l : List Int) (hB : BytesIn w A m c l) (hl : m ≤ 140737488355328) :
    ∃ v' w', (Builtin.append_ #[t, t] ty #[.slice none 0 0, .slice A m c]).run P w = .ok v' w' ∧ ∃ A2 c2, v' = .slice A2 m c2 ∧ BytesIn w' A2 m c2 l ∧ (∀ y, A2 = some y → w.heap.size ≤ y.block) ∧ w'.ownsRow w.heap.size e 1 (.slice A2 m c2) m (l.map (Value.int .u8)) ∧ Below w.heap.size w w' := by
  obtain ⟨v', w', hr, h2, h3, _⟩ := run_src (P := P) (w := w) t ty e w.heap.size ht hinfo (.slice none 0 0) 0 [] (World.ownsRow_nil _ _ _ _) A m c l hB (by omega) (Nat.le_refl _)
  rw [Nat.zero_add, List.nil_append] at h2
  obtain ⟨A2, c2, rfl, hb⟩ := BytesIn.own h2 hB.fits
  exact ⟨_, w', hr, A2, c2, rfl, hb, fun y hy => (h2.lt y.block (by subst hy; rfl)).1, h2, ⟨h3.os, h3.tape, h3.output, h3.size, fun k hk => h3.block k hk (by simp [Value.ownBlock])⟩⟩
end
/-- A region's step that appends, by its run. -/
theorem step_append_run {P : Program} {w : World} {ops : Array Oper} {o : Oper} {a : Act} {K : Act → World → Prop} {Q : Exit → Act → World → Prop} {E : Prop} (hgd : o.guard = none) (s x : Operand) (t : TypeId)
    (ho : o.op = .call { callee := .builtin .append, args := #[s, x], argTypes := #[t, t] }) (v y : Value) (hs : a.eval s = v) (hx : a.eval x = y) (R : Value → World → Prop)
    (hrun : ∃ v' w', (Builtin.append_ #[t, t] o.type #[v, y]).run P w = .ok v' w' ∧ R v' w') (h : ∀ v' w', R v' w' → K (a.put o.dst v') w') :
    if Region.wanted o (yielded ops a.tmps) = true then Oper.wp P o a w K Q else E := by
  have hw : Region.wanted o (yielded ops a.tmps) = true := by simp [Region.wanted, hgd]
  rw [if_pos hw]
  obtain ⟨v', w', hr, hR⟩ := hrun
  unfold Oper.wp execOp
  simp only [ho, resolve, invoke, builtin, Sem.run_bind, Sem.run_pure, Result.andThen_ok, List.map_toArray, List.map_cons, List.map_nil, hs, hx, hr]
  exact h v' w' hR
end Go.Proofs.YtnkhfdnahnphdaaDoor
end
section
namespace Go.Proofs.YtnkhfdnahnphdaaDoor
open Go.ChangeShapes Go.WideShapes Go.ChangeAt Go.RowKit Go.Rd
open Go.Proofs.YtnkhfdnahnphdaaDoorW.PrintWords Go.Proofs.YtnkhfdnahnphdaaDoorW.PrintLast Go.Proofs.YtnkhfdnahnphdaaDoorW.PrintMore
/-- The state of a file and of its handle, as a script has them. -/
structure St where
  at_ : Int
  cl : Bool
  ro : Bool
  bs : List Int
def St.fh (s : St) (fd : Nat) : FH := ⟨s.at_, 0, s.cl, s.ro, fd⟩
def St.fd (s : St) : FD := ⟨⟨#[47, 102]⟩, s.bs, .map none, false, 268435456, 0, 0, 0⟩
/-- An answer. -/
structure Ans where
  e : Int
  n : Int
  off : Int
  data : List Int
/-- What an answer's cells hold; 'bad': blocks that its bytes don't lie in. -/
def AnsK (w : World) (bad : Nat → Prop) (a : Ans) (cs : List Value) : Prop :=
  ∃ A c, cs = [.int .i64 a.e, .int .i64 a.n, .int .i64 a.off, .slice A a.data.length c, .slice none 0 0, .slice none 0 0] ∧ BytesIn w A a.data.length c a.data ∧ ∀ y, A = some y → ¬ bad y.block ∧ y.block < w.heap.size
/-- The blocks of a file and its handle. -/
def Feet (f fd : Nat) (dv : Value) (k : Nat) : Prop := k = f ∨ k = fd ∨ dv.ownBlock = some k
theorem bytes_wrote {w w' : World} {S : Nat → Prop} {A : Option Addr} {n c : Nat} {l : List Int} (h : BytesIn w A n c l) (hw : Wrote S w w') (hs : ∀ y, A = some y → ¬ S y.block) : BytesIn w' A n c l :=
  ⟨h.len, h.nil, h.le, h.max, fun y hy j u hu => by
    have hc := h.cells y hy j u hu
    exact (World.cell?_of_block (hw.block _ (cell_lt hc) (fun e => hs y hy (by rw [Go.Rd.add_block] at e; exact e)))).trans hc, h.fits⟩
theorem AnsK.step {w w' : World} {S S' : Nat → Prop} {a : Ans} {cs : List Value} (h : AnsK w S a cs) (hw : Wrote S w w') (hS : ∀ k, S' k → S k ∨ w.heap.size ≤ k) : AnsK w' S' a cs := by
  obtain ⟨A, c, rfl, hb, hn⟩ := h
  refine ⟨A, c, rfl, bytes_wrote hb hw (fun y hy => (hn y hy).1), fun y hy => ⟨fun hk => ?_, Nat.lt_of_lt_of_le (hn y hy).2 hw.size⟩⟩
  rcases hS _ hk with e | e
  · exact (hn y hy).1 e
  · have := (hn y hy).2; omega
theorem AnsK.bad {w : World} {S S' : Nat → Prop} {a : Ans} {cs : List Value} (h : AnsK w S a cs) (hS : ∀ k, S' k → S k) : AnsK w S' a cs := by
  obtain ⟨A, c, rfl, hb, hn⟩ := h
  exact ⟨A, c, rfl, hb, fun y hy => ⟨fun hk => (hn y hy).1 (hS _ hk), (hn y hy).2⟩⟩
theorem AnsK.below {w w' : World} {S : Nat → Prop} {a : Ans} {cs : List Value} (h : AnsK w S a cs) (hw : Below w.heap.size w w') : AnsK w' S a cs := by
  obtain ⟨A, c, rfl, hb, hn⟩ := h
  exact ⟨A, c, rfl, hb.below hw, fun y hy => ⟨(hn y hy).1, Nat.lt_of_lt_of_le (hn y hy).2 hw.size⟩⟩
theorem AnsK.len {w : World} {S : Nat → Prop} {a : Ans} {cs : List Value} (h : AnsK w S a cs) : cs.length = 6 := by obtain ⟨A, c, rfl, _⟩ := h; rfl
theorem AnsK.one {w : World} {S : Nat → Prop} {a : Ans} {cs : List Value} (h : AnsK w S a cs) : ∀ u ∈ cs, u.oneCell' = true := by
  obtain ⟨A, c, rfl, _⟩ := h
  intro u hu
  simp at hu
  rcases hu with rfl | rfl | rfl | rfl | rfl <;> rfl
/-- What a step does, wherever the file lies. -/
def StepOk (s : St) (x : Stp × List Int) (a : Ans) (s' : St) : Prop :=
  ∀ (w : World) (f B fd : Nat) (dv : Value), HandleIs w f (s.fh fd) → DataIs w B fd dv s.fd → BytesIn w x.1.da x.1.dl x.1.dc x.2 → B ≤ w.heap.size →
    Calls Tryd.prog 23 #[.pointer (some ⟨f, 0, none⟩), x.1.val] w fun e w' => ∃ cs, e = .returned (.agg cs.toArray) ∧
      ∃ dv1, HandleIs w' f (s'.fh fd) ∧ DataIs w' B fd dv1 s'.fd ∧ Wrote (Feet f fd dv) w w' ∧ (dv1.ownBlock = dv.ownBlock ∨ ∃ k, dv1.ownBlock = some k ∧ w.heap.size ≤ k) ∧ AnsK w' (fun k => Feet f fd dv1 k ∨ k < w.heap.size) a cs
/-- What steps do, one after the other. -/
inductive Runs : St → List (Stp × List Int) → List Ans → St → Prop
  | nil (s : St) : Runs s [] [] s
  | cons {s s' s'' : St} {x : Stp × List Int} {xs : List (Stp × List Int)} {a : Ans} {l : List Ans} : StepOk s x a s' → Runs s' xs l s'' → Runs s (x :: xs) (a :: l) s''
def Stp.cells (s : Stp) : List Value := [.int .i64 s.op, .string s.name, .string s.other, .int .i64 s.flag, .int .i64 s.perm, .int .i64 s.h, .slice s.da s.dl s.dc, .int .i64 s.off, .int .i64 s.wh, .int .i64 s.n]
/-- What a step's cells hold. -/
def StepK (w : World) (x : Stp × List Int) (cs : List Value) : Prop := cs = x.1.cells ∧ BytesIn w x.1.da x.1.dl x.1.dc x.2
set_option maxHeartbeats 1000000 in
theorem door_with (A : Option Addr) (m c : Nat) (b : List Int) (w : World) (B : Nat) (ho : w.ownsRow B tU8 1 (.slice A m c) m (b.map (Value.int .u8))) (hf : ∀ x ∈ b, 0 ≤ x ∧ x ≤ 255) :
    Calls Tryd.prog 20 #[.string ⟨#[47, 102]⟩, .slice A m c] w fun e w' => ∃ fd, e = .returned (.pointer (some ⟨fd, 0, none⟩)) ∧ DataIs w' B fd (.slice A m c) (St.fd ⟨0, false, false, b⟩) ∧ w.heap.size ≤ fd ∧ Below w.heap.size w w' := by
  have hm : b.length = m := by have := ho.1; simpa using this
  subst hm
  go_enter Tryd.func20, Tryd.ntmps20
  go_wp2
  go_ret
  exact ⟨_, rfl, ⟨alloc_new _ _, ho.alloc _, hf⟩, Nat.le_refl _, (Below.refl _ _).alloc (Nat.le_refl _) _⟩
theorem new_handle (fd : Nat) (w : World) : Calls Tryd.prog 21 #[.pointer (some ⟨fd, 0, none⟩)] w fun e w' => ∃ f, e = .returned (.pointer (some ⟨f, 0, none⟩)) ∧ HandleIs w' f ⟨0, 0, false, false, fd⟩ ∧ w.heap.size ≤ f ∧ Below w.heap.size w w' := by
  go_enter Tryd.func21, Tryd.ntmps21
  go_wp2
  go_ret
  exact ⟨_, rfl, alloc_new _ _, Nat.le_refl _, (Below.refl _ _).alloc (Nat.le_refl _) _⟩
theorem new_reader (fd : Nat) (w : World) : Calls Tryd.prog 22 #[.pointer (some ⟨fd, 0, none⟩)] w fun e w' => ∃ f, e = .returned (.pointer (some ⟨f, 0, none⟩)) ∧ HandleIs w' f ⟨0, 0, false, true, fd⟩ ∧ w.heap.size ≤ f ∧ Below w.heap.size w w' := by
  go_enter Tryd.func22, Tryd.ntmps22
  go_wp2
  go_ret
  exact ⟨_, rfl, alloc_new _ _, Nat.le_refl _, (Below.refl _ _).alloc (Nat.le_refl _) _⟩
theorem door_bytes (fd B : Nat) (dv : Value) (d : FD) (w : World) (hD : DataIs w B fd dv d) : Calls Tryd.prog 24 #[.pointer (some ⟨fd, 0, none⟩)] w fun e w' => e = .returned dv ∧ w = w' := by
  have d1 := (cell_of hD.1 1).trans rfl
  go_enter Tryd.func24, Tryd.ntmps24
  go_wp2
  go_ret
  exact ⟨rfl, rfl⟩
theorem info42' : (Tryd.prog.info? 42).map (fun i => (i.zero, i.size, i.bytes)) = some (some (.agg #[.int .i64 0, .int .i64 0, .int .i64 0, .slice none 0 0, .slice none 0 0, .slice none 0 0]), 6, 96) := by kernel_rfl
theorem steps_at {w : World} {A : Option Addr} {L : List (Stp × List Int)} (h : ReadsRow (StepK w) 10 w A L.length L) (k : Nat) (hk : k < L.length) :
    ∃ b off, A = some ⟨b, off, none⟩ ∧ b < w.heap.size ∧ BytesIn w L[k].1.da L[k].1.dl L[k].1.dc L[k].2 ∧
      (w.cell? ⟨b, off + k * 10, none⟩ = some (.int .i64 L[k].1.op) ∧ w.cell? ⟨b, off + k * 10 + 1, none⟩ = some (.string L[k].1.name) ∧ w.cell? ⟨b, off + k * 10 + 2, none⟩ = some (.string L[k].1.other) ∧
       w.cell? ⟨b, off + k * 10 + 3, none⟩ = some (.int .i64 L[k].1.flag) ∧ w.cell? ⟨b, off + k * 10 + 4, none⟩ = some (.int .i64 L[k].1.perm) ∧ w.cell? ⟨b, off + k * 10 + 5, none⟩ = some (.int .i64 L[k].1.h) ∧
       w.cell? ⟨b, off + k * 10 + 6, none⟩ = some (.slice L[k].1.da L[k].1.dl L[k].1.dc) ∧ w.cell? ⟨b, off + k * 10 + 7, none⟩ = some (.int .i64 L[k].1.off) ∧ w.cell? ⟨b, off + k * 10 + 8, none⟩ = some (.int .i64 L[k].1.wh) ∧
       w.cell? ⟨b, off + k * 10 + 9, none⟩ = some (.int .i64 L[k].1.n)) := by
  obtain ⟨ad, e, hc⟩ := h.2.2 (by omega)
  obtain ⟨c, hs, ⟨hr, hb⟩, hcell⟩ := hc k _ (List.getElem?_eq_getElem hk)
  subst hr
  obtain ⟨b, off, sp⟩ := ad
  have hs : sp = none := by
    obtain ⟨c0, _, ⟨hr0, _⟩, hcell0⟩ := hc 0 _ (List.getElem?_eq_getElem (show 0 < L.length by omega))
    subst hr0
    have h0 := hcell0 0 _ rfl
    cases sp with
    | none => rfl
    | some s => simp [Addr.add, World.cell?] at h0; split at h0 <;> simp at h0
  subst hs
  simp only [addr_add] at hcell
  have g : ∀ j u, L[k].1.cells[j]? = some u → w.cell? ⟨b, off + k * 10 + j, none⟩ = some u := fun j u hu => by rw [Nat.add_assoc]; exact hcell j u hu
  refine ⟨b, off, e, ?_, hb, g 0 _ rfl, g 1 _ rfl, g 2 _ rfl, g 3 _ rfl, g 4 _ rfl, g 5 _ rfl, g 6 _ rfl, g 7 _ rfl, g 8 _ rfl, g 9 _ rfl⟩
  exact cell_lt (g 0 _ rfl)
theorem feet_old {w wr : World} {f fd j : Nat} {dv : Value} {d : FD} (hf : w.heap.size ≤ f) (hfd : w.heap.size ≤ fd) (hD : DataIs wr w.heap.size fd dv d) (hs : Feet f fd dv j) (hj : j < w.heap.size) : False := by
  rcases hs with e | e | e
  · omega
  · omega
  · have := own_base hD.2.1 j e; omega
theorem own_ne_d {w2 : World} {R : Ans → List Value → Prop} {B B' fd : Nat} {v dv : Value} {l : List Ans} {d : FD} (hO : OwnRow R 42 6 w2 B v l) (hD : DataIs w2 B' fd dv d) (e : v.ownBlock = some fd) : False := by
  obtain ⟨inner, hin, _⟩ := hO
  obtain ⟨c, hc⟩ := own_typed hin fd e
  exact blk_ne hc hD.1 (by decide) rfl
theorem own_ne_r {w2 : World} {R : Ans → List Value → Prop} {B B' fd j : Nat} {v dv : Value} {l : List Ans} {d : FD} (hO : OwnRow R 42 6 w2 B v l) (hD : DataIs w2 B' fd dv d) (e : v.ownBlock = some j) (hj : dv.ownBlock = some j) : False := by
  obtain ⟨inner, hin, _⟩ := hO
  obtain ⟨c, hc⟩ := own_typed hin j e
  obtain ⟨c', hc'⟩ := own_typed hD.2.1 j hj
  exact blk_ne hc hc' (by decide) rfl
end Go.Proofs.YtnkhfdnahnphdaaDoor
end
section
namespace Go.Rd
open Go.ChangeShapes Go.WideShapes Go.RowKit
def sentData {H : Type} (text : List UInt8) : DataW H := .iface "*errors.errorString" (.ptr (.agg [.lit (.string text)]))
/-- The types of the errors that errors.New makes. -/
structure SentTypes (P : Program) (ti tp te ts : TypeId) : Prop where
  hi : ∃ ms, P.underlying ti = some (.interface ms)
  row : ∀ u, P.typeName? 3 u = some "*errors.errorString" → u = tp
  hp : P.underlying tp = some (.pointer te)
  he : ∃ f : Field, P.underlying te = some (.struct #[f]) ∧ f.type = ts ∧ f.offset = 0
  hs : P.underlying ts = some .string
  hc : P.cellsOf te = 1
  hcs : P.cellsOf ts = 1
theorem sent_in {P : Program} {W : World} {ti tp te ts : TypeId} (T : SentTypes P ti tp te ts) {n : String} {text : List UInt8} {g : Nat} (hg : P.globalNamed n = some g) (hty : (P.globals[g]?).map (·.type) = some ti) :
    ∀ (laid : List (String × DataW Unit)) (ps : List MemPlace), DataW.LaidVars P W laid ps →
      (∀ b off, MemPlace.cell b off ∈ ps → (∃ c t, W.heap[b]? = some (.cells c t (0, 0))) ∧ ∀ u v, W.cell? ⟨b, off, none⟩ = some (.iface u v) → Value.okWide P W .any 0 u v) →
      (n, sentData text) ∈ laid →
      ∃ (a : Addr) (s : ByteArray), W.cell? ⟨g, 0, none⟩ = some (.iface tp (.pointer (some a))) ∧ g < W.heap.size ∧ W.cell? a = some (.string s) ∧ s.data.toList = text ∧ (∃ c t, W.heap[a.block]? = some (.cells c t (0, 0)))
  | [], _, _, _, hm => by simp at hm
  | (n', d) :: r, ps, h, hrows, hm => by
    obtain ⟨g', t', cs, fuel, p, q, hg', ht', hv, hd, hr, rfl⟩ := h
    rcases List.mem_cons.1 hm with e | hm
    · simp only [Prod.mk.injEq] at e
      obtain ⟨rfl, rfl⟩ := e
      obtain rfl := Option.some.inj (hg.symm.trans hg')
      obtain rfl := Option.some.inj (hty.symm.trans ht')
      obtain ⟨l⟩ := cs
      obtain ⟨ms, hi⟩ := T.hi
      obtain ⟨f, he, hft, hfo⟩ := T.he
      have ok : ∀ u v, l = [.iface u v] → Value.okWide P W .any 0 u v := fun u v e => by
        subst e
        exact (hrows g 0 (by simp [MemPlace.row])).2 u v (by simpa using World.var?_cell hg hv 0)
      obtain ⟨a, s, rfl, hc, hs, hz, rfl⟩ := errorString_of_trod hi T.row T.hp he hft hfo T.hs T.hc T.hcs hd ok
      have hcell : W.cell? ⟨g, 0, none⟩ = some (.iface tp (.pointer (some a))) := by simpa using World.var?_cell hg hv 0
      have hlt : g < W.heap.size := by
        obtain ⟨c, t, hb⟩ := (hrows g 0 (by simp [MemPlace.row])).1
        exact (Array.getElem?_eq_some_iff.1 hb).1
      exact ⟨a, s, hcell, hlt, hc, hs, (hrows a.block a.off (by simp [MemPlace.row])).1⟩
    · exact sent_in T hg hty r q hr (fun b off hb => hrows b off (by simp [hb])) hm
theorem sent_of_laid {P : Program} {W : World} {ti tp te ts : TypeId} (T : SentTypes P ti tp te ts) {laid : List (String × DataW Unit)} (h : laidMet P laid W) (n : String) (text : List UInt8) (g : Nat) (hg : P.globalNamed n = some g) (hty : (P.globals[g]?).map (·.type) = some ti) (hm : (n, sentData text) ∈ laid) :
    ∃ (a : Addr) (s : ByteArray), W.cell? ⟨g, 0, none⟩ = some (.iface tp (.pointer (some a))) ∧ g < W.heap.size ∧ W.cell? a = some (.string s) ∧ s.data.toList = text ∧ (∃ c t, W.heap[a.block]? = some (.cells c t (0, 0))) := by
  obtain ⟨ps, hv, _, hrows⟩ := h
  exact sent_in T hg hty laid ps hv hrows hm
end Go.Rd
end
section
namespace Go.Proofs.YtnkhfdnahnphdaaDoor
open Go.ChangeShapes Go.WideShapes Go.ChangeAt Go.RowKit Go.Rd
open Go.Proofs.YtnkhfdnahnphdaaDoorW.PrintWords Go.Proofs.YtnkhfdnahnphdaaDoorW.PrintLast Go.Proofs.YtnkhfdnahnphdaaDoorW.PrintMore
/-- The eleven laid errors' variables hold pointers to different blocks, all below B. -/
structure Sents (B : Nat) (w : World) (ad : Nat → Addr) : Prop where
  cell : ∀ g, g < 11 → w.cell? ⟨g, 0, none⟩ = some (.iface 149 (.pointer (some (ad g))))
  blk : ∀ g, g < 11 → ∃ c t, w.heap[(ad g).block]? = some (.cells c t (0, 0))
  ne : ∀ g h, g < 11 → h < 11 → g ≠ h → ad g ≠ ad h
  low : ∀ g, g < 11 → g < B ∧ (ad g).block < B
theorem Sents.below {B : Nat} {w w' : World} {ad : Nat → Addr} (h : Sents B w ad) (hb : Below B w w') : Sents B w' ad :=
  ⟨fun g hg => (hb.cell (p := ⟨g, 0, none⟩) (h.low g hg).1).trans (h.cell g hg), fun g hg => by
    obtain ⟨c, t, hc⟩ := h.blk g hg
    exact ⟨c, t, (hb.block _ (h.low g hg).2).trans hc⟩, h.ne, h.low⟩
theorem Sents.mono {B B' : Nat} {w : World} {ad : Nat → Addr} (h : Sents B w ad) (hb : B ≤ B') : Sents B' w ad :=
  ⟨h.cell, h.blk, h.ne, fun g hg => ⟨Nat.lt_of_lt_of_le (h.low g hg).1 hb, Nat.lt_of_lt_of_le (h.low g hg).2 hb⟩⟩
theorem comp149 : (Tryd.prog.info? 149).map (·.comparable) = some true := by kernel_rfl
theorem size151 : (Tryd.prog.info? 151).map (fun i => decide (i.size ≠ 0)) = some true := by kernel_rfl
theorem err_eq (W : World) (a : Addr) : (binOp .eql 96 (.iface 149 (.pointer (some a))) (.iface 149 (.pointer (some a)))).run Tryd.prog W = .ok (.bool true) W := by
  obtain ⟨i, hi, hcmp⟩ := Option.map_eq_some_iff.1 comp149
  obtain ⟨j, hj, _⟩ := Option.map_eq_some_iff.1 size151
  exact run_eql_iface_ptr_same W a Tryd.underlying96 Tryd.underlying149 hi hcmp hj
theorem err_ne {W : World} {a b : Addr} (hne : a ≠ b) (ha : ∃ c t, W.heap[a.block]? = some (.cells c t (0, 0))) (hb : ∃ c t, W.heap[b.block]? = some (.cells c t (0, 0))) :
    (binOp .eql 96 (.iface 149 (.pointer (some a))) (.iface 149 (.pointer (some b)))).run Tryd.prog W = .ok (.bool false) W := by
  obtain ⟨i, hi, hcmp⟩ := Option.map_eq_some_iff.1 comp149
  obtain ⟨j, hj, hsz⟩ := Option.map_eq_some_iff.1 size151
  obtain ⟨ca, ta, ha⟩ := ha
  obtain ⟨cb, tb, hb⟩ := hb
  exact run_eql_iface_ptr_other W Tryd.underlying96 Tryd.underlying149 hi hcmp hj (by simpa using hsz) hne ha hb
theorem assert_err (W : World) (v : Value) : (Instr.typeAssert (.iface 149 v) 96 124 true).run Tryd.prog W = .ok (.tuple #[.pointer none, .bool false]) W := by kernel_rfl
theorem err_nil (W : World) (v : Value) : (binOp .eql 96 (.iface 149 v) .nilIface).run Tryd.prog W = .ok (.bool false) W := by kernel_rfl
theorem assert_path (W : World) (v : Value) : (Instr.typeAssert (.iface 124 v) 96 124 true).run Tryd.prog W = .ok (.tuple #[v, .bool true]) W := by kernel_rfl
set_option maxRecDepth 100000 in
set_option maxHeartbeats 2000000 in
theorem kind_range (B : Nat) (ad : Nat → Addr) (w : World) (hS : Sents B w ad) : Calls Tryd.prog 46 #[.iface 149 (.pointer (some (ad 3)))] w fun e w' => e = .returned (.int .i64 7) ∧ w = w' := by
  have c0 := hS.cell 0 (by decide)
  have c1 := hS.cell 1 (by decide)
  have c2 := hS.cell 2 (by decide)
  have c3 := hS.cell 3 (by decide)
  have c4 := hS.cell 4 (by decide)
  have c5 := hS.cell 5 (by decide)
  have c7 := hS.cell 7 (by decide)
  have n4 := err_ne (W := w) (hS.ne 3 4 (by decide) (by decide) (by decide)) (hS.blk 3 (by decide)) (hS.blk 4 (by decide))
  have n7 := err_ne (W := w) (hS.ne 3 7 (by decide) (by decide) (by decide)) (hS.blk 3 (by decide)) (hS.blk 7 (by decide))
  have n5 := err_ne (W := w) (hS.ne 3 5 (by decide) (by decide) (by decide)) (hS.blk 3 (by decide)) (hS.blk 5 (by decide))
  have n0 := err_ne (W := w) (hS.ne 3 0 (by decide) (by decide) (by decide)) (hS.blk 3 (by decide)) (hS.blk 0 (by decide))
  have n1 := err_ne (W := w) (hS.ne 3 1 (by decide) (by decide) (by decide)) (hS.blk 3 (by decide)) (hS.blk 1 (by decide))
  have n2 := err_ne (W := w) (hS.ne 3 2 (by decide) (by decide) (by decide)) (hS.blk 3 (by decide)) (hS.blk 2 (by decide))
  have n3 := err_eq w (ad 3)
  have a1 := assert_err w (.pointer (some (ad 3)))
  have a2 := err_nil w (.pointer (some (ad 3)))
  go_enter Tryd.func46, Tryd.ntmps46
  go_wp2
  go_ret
  exact ⟨rfl, rfl⟩
set_option maxRecDepth 100000 in
set_option maxHeartbeats 2000000 in
theorem kind_path (B : Nat) (ad : Nat → Addr) (w : World) (b : Nat) (op path : ByteArray) (ea : Addr) (fr : Nat × Nat) (hS : Sents B w ad) (hb : w.heap[b]? = some (.cells #[.string op, .string path, .iface 149 (.pointer (some ea))] 127 fr))
    (hea : ∃ c t, w.heap[ea.block]? = some (.cells c t (0, 0))) (hne : ∀ g, g < 11 → ea ≠ ad g) (hop : op = ⟨#[116, 114, 117, 110, 99, 97, 116, 101]⟩ ∨ op = ⟨#[119, 114, 105, 116, 101]⟩) :
    Calls Tryd.prog 46 #[.iface 124 (.pointer (some ⟨b, 0, none⟩))] w fun e w' => e = .returned (.int .i64 6) ∧ w = w' := by
  have c4 := hS.cell 4 (by decide)
  have c5 := hS.cell 5 (by decide)
  have c6 := hS.cell 6 (by decide)
  have c7 := hS.cell 7 (by decide)
  have n4 := err_ne (W := w) (hne 4 (by decide)) hea (hS.blk 4 (by decide))
  have n5 := err_ne (W := w) (hne 5 (by decide)) hea (hS.blk 5 (by decide))
  have n6 := err_ne (W := w) (hne 6 (by decide)) hea (hS.blk 6 (by decide))
  have n7 := err_ne (W := w) (hne 7 (by decide)) hea (hS.blk 7 (by decide))
  have a1 := assert_path w (.pointer (some ⟨b, 0, none⟩))
  have b0 := (cell_of hb 0).trans rfl
  have b2 := (cell_of hb 2).trans rfl
  clear hne
  rcases hop with rfl | rfl
  · go_enter Tryd.func46, Tryd.ntmps46
    go_wp2
    go_ret
    exact ⟨rfl, rfl⟩
  · go_enter Tryd.func46, Tryd.ntmps46
    go_wp2
    go_ret
    exact ⟨rfl, rfl⟩
/-- The laid errors' texts. -/
def errText (g : Nat) : List UInt8 := [[70, 105, 108, 101, 32, 105, 115, 32, 99, 108, 111, 115, 101, 100],
  [69, 79, 70],
  [117, 110, 101, 120, 112, 101, 99, 116, 101, 100, 32, 69, 79, 70],
  [111, 117, 116, 32, 111, 102, 32, 114, 97, 110, 103, 101],
  [102, 105, 108, 101, 32, 100, 111, 101, 115, 32, 110, 111, 116, 32, 101, 120, 105, 115, 116],
  [102, 105, 108, 101, 32, 97, 108, 114, 101, 97, 100, 121, 32, 101, 120, 105, 115, 116, 115],
  [110, 111, 116, 32, 97, 32, 100, 105, 114, 101, 99, 116, 111, 114, 121],
  [110, 111, 32, 115, 117, 99, 104, 32, 102, 105, 108, 101, 32, 111, 114, 32, 100, 105, 114, 101, 99, 116, 111, 114, 121],
  [111, 112, 101, 114, 97, 116, 105, 111, 110, 32, 110, 111, 116, 32, 112, 101, 114, 109, 105, 116, 116, 101, 100],
  [102, 105, 108, 101, 32, 100, 101, 115, 99, 114, 105, 112, 116, 111, 114, 32, 105, 110, 32, 98, 97, 100, 32, 115, 116, 97, 116, 101],
  [105, 110, 112, 117, 116, 47, 111, 117, 116, 112, 117, 116, 32, 101, 114, 114, 111, 114]].getD g []
theorem star_err : "*" ++ "errors.errorString" = "*errors.errorString" := by decide
theorem sent_types : SentTypes Tryd.prog 96 149 151 9 where
  hi := ⟨_, Tryd.underlying96⟩
  row := fun u h => typeName_ptr_named (nm := "errors.errorString") (by rw [star_err]; kernel_rfl) (by kernel_rfl) (by decide) u (by rw [star_err]; exact h)
  hp := Tryd.underlying149
  he := ⟨_, Tryd.underlying151, rfl, rfl⟩
  hs := Tryd.underlying9
  hc := by kernel_rfl
  hcs := by kernel_rfl
theorem err_texts : ∀ g, g < 11 → ∀ h, h < 11 → errText g = errText h → g = h := by decide
theorem sents_of {w : World} (hL : laidMet Tryd.prog Rows.fnTruncateCutsRow.laid w) : ∃ ad, Sents w.heap.size w ad := by
  have H : ∀ g, g < 11 → ∃ (a : Addr) (s : ByteArray), w.cell? ⟨g, 0, none⟩ = some (.iface 149 (.pointer (some a))) ∧ g < w.heap.size ∧ w.cell? a = some (.string s) ∧ s.data.toList = errText g ∧ ∃ c t, w.heap[a.block]? = some (.cells c t (0, 0)) := by
    intro g hg
    have hc : g = 0 ∨ g = 1 ∨ g = 2 ∨ g = 3 ∨ g = 4 ∨ g = 5 ∨ g = 6 ∨ g = 7 ∨ g = 8 ∨ g = 9 ∨ g = 10 := by omega
    rcases hc with rfl | rfl | rfl | rfl | rfl | rfl | rfl | rfl | rfl | rfl | rfl
    · exact sent_of_laid sent_types hL "pub-marram/pub/afero/mem.ErrFileClosed" [70, 105, 108, 101, 32, 105, 115, 32, 99, 108, 111, 115, 101, 100] 0 (by kernel_rfl) (by kernel_rfl) (.tail _ (.tail _ (.tail _ (.tail _ (.tail _ (.tail _ (.tail _ (.tail _ (.tail _ (.head _))))))))))
    · exact sent_of_laid sent_types hL "io.EOF" [69, 79, 70] 1 (by kernel_rfl) (by kernel_rfl) (.tail _ (.tail _ (.tail _ (.tail _ (.tail _ (.tail _ (.tail _ (.head _))))))))
    · exact sent_of_laid sent_types hL "io.ErrUnexpectedEOF" [117, 110, 101, 120, 112, 101, 99, 116, 101, 100, 32, 69, 79, 70] 2 (by kernel_rfl) (by kernel_rfl) (.tail _ (.tail _ (.tail _ (.tail _ (.tail _ (.tail _ (.tail _ (.tail _ (.head _)))))))))
    · exact sent_of_laid sent_types hL "pub-marram/pub/afero/mem.ErrOutOfRange" [111, 117, 116, 32, 111, 102, 32, 114, 97, 110, 103, 101] 3 (by kernel_rfl) (by kernel_rfl) (.tail _ (.tail _ (.tail _ (.tail _ (.tail _ (.tail _ (.tail _ (.tail _ (.tail _ (.tail _ (.head _)))))))))))
    · exact sent_of_laid sent_types hL "pub-marram/pub/afero/inner/os.ErrNotExist" [102, 105, 108, 101, 32, 100, 111, 101, 115, 32, 110, 111, 116, 32, 101, 120, 105, 115, 116] 4 (by kernel_rfl) (by kernel_rfl) (.tail _ (.head _))
    · exact sent_of_laid sent_types hL "pub-marram/pub/afero/inner/os.ErrExist" [102, 105, 108, 101, 32, 97, 108, 114, 101, 97, 100, 121, 32, 101, 120, 105, 115, 116, 115] 5 (by kernel_rfl) (by kernel_rfl) (.head _)
    · exact sent_of_laid sent_types hL "pub-marram/pub/afero/inner/os.ENOTDIR" [110, 111, 116, 32, 97, 32, 100, 105, 114, 101, 99, 116, 111, 114, 121] 6 (by kernel_rfl) (by kernel_rfl) (.tail _ (.tail _ (.tail _ (.head _))))
    · exact sent_of_laid sent_types hL "pub-marram/pub/afero/inner/os.ENOENT" [110, 111, 32, 115, 117, 99, 104, 32, 102, 105, 108, 101, 32, 111, 114, 32, 100, 105, 114, 101, 99, 116, 111, 114, 121] 7 (by kernel_rfl) (by kernel_rfl) (.tail _ (.tail _ (.head _)))
    · exact sent_of_laid sent_types hL "pub-marram/pub/afero/inner/os.EPERM" [111, 112, 101, 114, 97, 116, 105, 111, 110, 32, 110, 111, 116, 32, 112, 101, 114, 109, 105, 116, 116, 101, 100] 8 (by kernel_rfl) (by kernel_rfl) (.tail _ (.tail _ (.tail _ (.tail _ (.head _)))))
    · exact sent_of_laid sent_types hL "pub-marram/pub/afero/inner/os.EBADFD" [102, 105, 108, 101, 32, 100, 101, 115, 99, 114, 105, 112, 116, 111, 114, 32, 105, 110, 32, 98, 97, 100, 32, 115, 116, 97, 116, 101] 9 (by kernel_rfl) (by kernel_rfl) (.tail _ (.tail _ (.tail _ (.tail _ (.tail _ (.tail _ (.head _)))))))
    · exact sent_of_laid sent_types hL "pub-marram/pub/afero/inner/os.EIO" [105, 110, 112, 117, 116, 47, 111, 117, 116, 112, 117, 116, 32, 101, 114, 114, 111, 114] 10 (by kernel_rfl) (by kernel_rfl) (.tail _ (.tail _ (.tail _ (.tail _ (.tail _ (.head _))))))
  refine ⟨fun g => if h : g < 11 then Classical.choose (H g h) else ⟨0, 0, none⟩, fun g hg => ?_, fun g hg => ?_, fun g h hg hh hne he => ?_, fun g hg => ?_⟩
  · simp only [dif_pos hg]
    obtain ⟨s, h1, h2, h3, h4, h5⟩ := Classical.choose_spec (H g hg)
    exact h1
  · simp only [dif_pos hg]
    obtain ⟨s, h1, h2, h3, h4, h5⟩ := Classical.choose_spec (H g hg)
    exact h5
  · simp only [dif_pos hg, dif_pos hh] at he
    obtain ⟨s, _, _, h3, h4, _⟩ := Classical.choose_spec (H g hg)
    obtain ⟨s', _, _, h3', h4', _⟩ := Classical.choose_spec (H h hh)
    rw [he, h3'] at h3
    cases h3
    exact hne (err_texts g hg h hh (h4.symm.trans h4'))
  · simp only [dif_pos hg]
    obtain ⟨s, h1, h2, h3, h4, c, t, h5⟩ := Classical.choose_spec (H g hg)
    exact ⟨h2, lt_of_heap h5⟩
end Go.Proofs.YtnkhfdnahnphdaaDoor
end
section
namespace Go.Proofs.YtnkhfdnahnphdaaDoor
open Go.ChangeShapes Go.WideShapes Go.ChangeAt Go.RowKit Go.Rd
open Go.Proofs.YtnkhfdnahnphdaaDoorW.PrintWords Go.Proofs.YtnkhfdnahnphdaaDoorW.PrintLast Go.Proofs.YtnkhfdnahnphdaaDoorW.PrintMore
theorem infoU8 : (Tryd.prog.info? 5).map (fun i => (i.zero, i.size, i.bytes)) = some (some (.int .u8 0), 1, 1) := by kernel_rfl
/-- Bytes with zeros up to a size, and cut there. -/
def sized (bs : List Int) (n : Nat) : List Int := bs.take n ++ List.replicate (n - bs.length) 0
/-- Bytes laid over others at a place, with zeros between. -/
def lay (bs : List Int) (a : Nat) (b : List Int) : List Int := sized bs a ++ b ++ bs.drop (a + b.length)
theorem set_mt (fd B : Nat) (dv : Value) (d : FD) (t : Int) (w : World) (hD : DataIs w B fd dv d) :
    Calls Tryd.prog 68 #[.pointer (some ⟨fd, 0, none⟩), .int .i64 t] w fun e w' => e = .returned (.tuple #[]) ∧ DataIs w' B fd dv { d with mt := t } ∧ Wrote (fun k => k = fd) w w' := by
  have f5 := free_of hD.1 5
  have c5 := (cell_of hD.1 5).trans rfl
  go_enter Tryd.func68, Tryd.ntmps68
  go_wp2
  go_end0
  refine ⟨rfl, ⟨Go.Rd.heap_setCell_same (o := 5) hD.1 _, own_move hD.2.1 (fun k hk => Below.heap_setCell _ _ _ _ (row_fd hD k hk)), hD.2.2⟩, wrote_set _ _ _ _⟩
theorem own_cut (Ad : Option Addr) (a n c : Nat) : (Value.slice Ad a c).ownBlock = (Value.slice Ad n c).ownBlock := by cases Ad <;> rfl
theorem bytes_none (w : World) : BytesIn w none 0 0 [] := ⟨rfl, fun _ => ⟨rfl, rfl⟩, Nat.le_refl _, Nat.zero_le _, fun x hx => (by cases hx), fun c hc => (by cases hc)⟩
set_option maxRecDepth 100000 in
set_option maxHeartbeats 4000000 in
theorem write_flat (f B fd a : Nat) (rdc : Int) (dv : Value) (d : FD) (A : Option Addr) (m c : Nat) (b : List Int) (w : World) (hH : HandleIs w f ⟨(a : Int), rdc, false, false, fd⟩) (hD : DataIs w B fd dv d) (hb : BytesIn w A m c b)
    (ha : a ≤ d.bs.length) (hge : d.bs.length ≤ m + a) (hm : m ≤ 4294967296) (hm2 : d.bs.length ≤ 4294967296) (hB : B ≤ w.heap.size) :
    Calls Tryd.prog 35 #[.pointer (some ⟨f, 0, none⟩), .slice A m c] w fun e w' => e = .returned (.tuple #[.int .i64 (m : Int), .nilIface]) ∧ Laid w w' f B fd ⟨(a : Int) + m, rdc, false, false, fd⟩ dv { d with bs := d.bs.take a ++ b, mt := 0 } := by
  obtain ⟨l1, hE⟩ : ∃ l1, d.bs.take a ++ b = l1 := ⟨_, rfl⟩
  have hl1 : l1.length = a + m := by rw [← hE]; simp [hb.len]; omega
  have hl2 : (d.bs.map (Value.int .u8)).take (a * 1) ++ b.map (Value.int .u8) = l1.map (Value.int .u8) := by rw [← hE]; simp
  have hl3 : ∀ x ∈ l1, 0 ≤ x ∧ x ≤ 255 := fun x hx => by
    rw [← hE] at hx
    rcases List.mem_append.1 hx with h | h
    · exact hD.2.2 x (List.mem_of_mem_take h)
    · exact hb.fits x h
  rw [hE]
  clear hE
  obtain ⟨Ad, cd, rfl⟩ := hD.slice
  have c0 := (cell_of hH 0).trans rfl
  have c2 := (cell_of hH 2).trans rfl
  have c3 := (cell_of hH 3).trans rfl
  have c4 := (cell_of hH 4).trans rfl
  have d1 := (cell_of hD.1 1).trans rfl
  have f0 := free_of hH 0
  have g1 := free_of hD.1 1
  have hcap : d.bs.length ≤ cd := own_cap hD.2.1
  have hac : a ≤ cd := by omega
  have hR := run_src (P := Tryd.prog) (w := w.drew) 22 22 5 B Tryd.underlying22 infoU8 (.slice Ad a cd) a _ (World.ownsRow.drew (own_take hD.2.1 ha)) A m c b (hb.below ((Below.refl _ _).drew)) (by omega) hB
  rw [own_cut Ad a d.bs.length cd] at hR
  have HR := Lib.hid hR
  have hl4 : l1.length ≤ 8589934592 := by omega
  have HL1 := Lib.hid hl1
  have HL2 := Lib.hid hl2
  have HL3 := Lib.hid hl3
  have hcs := (World.ownsRow.drew (w := w) (own_take hD.2.1 ha))
  clear hR hl1 hl2 hl3 hcs
  go_enter Tryd.func35, Tryd.ntmps35
  go_upto_region 14 with fail
  go_cut [] (fun wx => Laid w wx f B fd ⟨(a : Int), rdc, false, false, fd⟩ (.slice Ad d.bs.length cd) { d with bs := l1 })
  case first =>
    go_region_law (refine step_append_run rfl (.tmp 115) (.tmp 116) 22 rfl (.slice Ad a cd) (.slice A m c) (by simp [Act.eval, Act.put]) (by simp [Act.eval, Act.put]) _ HR.out ?_; rintro v1 w1 ⟨ho1, hg1, hat1⟩; obtain ⟨A1, c1, ev1⟩ := own_slice ho1; subst ev1; have hw1 := wrote_grown hg1; have hd1 := (hw1.block fd (lt_of_heap hD.1) (fun e => row_fd hD fd e rfl)).trans hD.1; have hh1 := hH.wrote (w := w.drew) hw1 (fun e => row_fh hD hH f e rfl); have e4 := (cell_of hh1 4).trans rfl; have e1 := (cell_of hd1 1).trans rfl; have e1f := free_of hd1 1)
    all_goals
      go_wp2_with fail
      go_meet
      exact Laid.of_drew <| laid_store (w := w.drew) (l := l1) hH hD ho1 hg1 hat1 HL1.out.symm HL2.out HL3.out
  case rest =>
    obtain ⟨dv1, hH1, hD1, hW1, hat1⟩ := hcut
    clear c0 c2 c3 c4 d1 f0 g1 HR
    obtain ⟨A1, k1, rfl⟩ := hD1.slice
    have c0 := (cell_of hH1 0).trans rfl
    have c4 := (cell_of hH1 4).trans rfl
    have d1 := (cell_of hD1.1 1).trans rfl
    have f0 := free_of hH1 0
    have g1 := free_of hD1.1 1
    have hBc : B ≤ wc.heap.size := Nat.le_trans hB hW1.size
    have hR := run_src (P := Tryd.prog) (w := wc.drew) 22 22 5 B Tryd.underlying22 infoU8 _ _ _ (World.ownsRow.drew hD1.2.1) none 0 0 [] (bytes_none _) (by show l1.length + 0 ≤ _; omega) hBc
    have HR := Lib.hid hR
    clear hR
    go_upto_region 15 with fail
    go_cut [] (fun wx => Laid wc wx f B fd ⟨(a : Int), rdc, false, false, fd⟩ (.slice A1 l1.length k1) { d with bs := l1 })
    case first =>
      go_region_law (refine step_append_run rfl (.tmp 130) (.tmp 131) 22 rfl (.slice A1 l1.length k1) (.slice none 0 0) (by simp [Act.eval]) (by simp [Act.eval]) _ HR.out ?_; rintro v1 w1 ⟨ho1, hg1, hat1⟩; obtain ⟨A2, c2, ev1⟩ := own_slice ho1; subst ev1; have hw1 := wrote_grown hg1; have hd1 := (hw1.block fd (lt_of_heap hD1.1) (fun e => row_fd hD1 fd e rfl)).trans hD1.1; have hh1 := hH1.wrote (w := wc.drew) hw1 (fun e => row_fh hD1 hH1 f e rfl); have e4 := (cell_of hh1 4).trans rfl; have e1 := (cell_of hd1 1).trans rfl; have e1f := free_of hd1 1)
      all_goals
        go_wp2_with fail
        go_meet
        exact Laid.of_drew <| laid_store (w := wc.drew) (d := { d with bs := l1 }) (l := l1) hH1 hD1 ho1 hg1 hat1 rfl (by simp) HL3.out
    case rest =>
      obtain ⟨dv2, hH2, hD2, hW2, hat2⟩ := hcut
      clear c0 c4 d1 f0 g1 HR
      have c4 := (cell_of hH2 4).trans rfl
      go_wp2_with (go_at_call 68; refine (set_mt fd B dv2 _ 0 _ hD2).mono ?_; rintro e w3 ⟨rfl, hD3, hW3⟩; have hH3 := hH2.wrote hW3 (fun e => fd_ne hD2 hH2 e.symm); have q0 := (cell_of hH3 0).trans rfl; have q0f := free_of hH3 0)
      go_ret2
      exact ⟨rfl, Laid.trans hW1 hat1 (Laid.trans hW2 hat2 (laid_last hH2 hD2 hD3 hW3 _))⟩
end Go.Proofs.YtnkhfdnahnphdaaDoor
end
section
namespace Go.Proofs.YtnkhfdnahnphdaaDoor
open Go.ChangeShapes Go.WideShapes Go.ChangeAt Go.RowKit Go.Rd
open Go.Proofs.YtnkhfdnahnphdaaDoorW.PrintWords Go.Proofs.YtnkhfdnahnphdaaDoorW.PrintLast Go.Proofs.YtnkhfdnahnphdaaDoorW.PrintMore
/-- A row that is known whole is a row of one's own. -/
theorem own_whole {w : World} {B g n cap : Nat} {C : List Value} (hg : w.heap[g]? = some (.cells C.toArray tU8 (0, 0))) (hB : B ≤ g) (hn : n ≤ cap) (hm : cap ≤ maxLen) (hc : C.length = cap) (l : List Int) (hl : C.take n = l.map (Value.int .u8)) (hln : l.length = n) :
    w.ownsRow B tU8 1 (.slice (some ⟨g, 0, none⟩) n cap) n (l.map (Value.int .u8)) :=
  ⟨by simp [hln], .inr ⟨g, cap, C.toArray, rfl, hB, hg, hn, hm, by simp [hc], by simpa using hl⟩⟩
/-- The end of a row that is known whole, as bytes. -/
theorem tail_bytes {w : World} {g k n cap : Nat} {C : List Value} {l : List Int} (hg : w.heap[g]? = some (.cells C.toArray tU8 (0, 0))) (hC : (C.drop k).take n = l.map (Value.int .u8)) (hln : l.length = n) (hn : n ≤ cap) (hm : cap ≤ maxLen) (hl : ∀ c ∈ l, 0 ≤ c ∧ c ≤ 255) :
    BytesIn w (some ⟨g, k, none⟩) n cap l := by
  refine ⟨hln, fun h => (by cases h), hn, hm, fun x hx j u hu => ?_, hl⟩
  cases hx
  rw [addr_add, cell_of hg (k + j), ← hC] at *
  have hj : j < n := by
    have := (List.getElem?_eq_some_iff.1 hu).1
    simp at this; omega
  rw [List.getElem?_take_of_lt hj, List.getElem?_drop] at hu
  simpa using hu
/-- The state behind the first append. -/
def InRel (w wx : World) (f B fd g : Nat) (h : FH) (dv : Value) (d : FD) (C : List Value) : Prop :=
  HandleIs wx f h ∧ DataIs wx B fd dv d ∧ Wrote (fun k => k = f ∨ k = fd ∨ k = g) w wx ∧ wx.heap[g]? = some (.cells C.toArray tU8 (0, 0))
theorem in_store {w w1 : World} {f B fd g n cap : Nat} {h : FH} {dv0 : Value} {d : FD} {l : List Int} {C : List Value} (hH : HandleIs w f h) (hD : DataIs w B fd dv0 d) (hgb : dv0.ownBlock = some g) (hw : Wrote (fun k => k = g) w w1) (hg : w1.heap[g]? = some (.cells C.toArray tU8 (0, 0)))
    (hB : B ≤ g) (hn : n ≤ cap) (hm : cap ≤ maxLen) (hc : C.length = cap) (hl : C.take n = l.map (Value.int .u8)) (hln : l.length = n) (hll : ∀ c ∈ l, 0 ≤ c ∧ c ≤ 255) :
    InRel w (w1.setCell ⟨fd, 1, none⟩ (.slice (some ⟨g, 0, none⟩) n cap)) f B fd g h (.slice (some ⟨g, 0, none⟩) n cap) { d with bs := l } C := by
  have hgf := row_fd hD g hgb
  have hgh := row_fh hD hH g hgb
  have hd1 := (hw.block fd (lt_of_heap hD.1) (fun e => hgf e.symm)).trans hD.1
  have hh1 := hH.wrote hw (fun e => hgh e.symm)
  have hg2 : (w1.setCell ⟨fd, 1, none⟩ (.slice (some ⟨g, 0, none⟩) n cap)).heap[g]? = some (.cells C.toArray tU8 (0, 0)) := setCell_keeps hg hgf _
  subst hln
  exact ⟨hh1.set (p := ⟨fd, 1, none⟩) (fun e => fd_ne hD hH e.symm) _, ⟨Go.Rd.heap_setCell_same (o := 1) hd1 _, own_whole hg2 hB hn hm hc l hl rfl, hll⟩, (hw.mono (fun k _ hk => .inr (.inr hk))).setCell (fun _ => .inr (.inl rfl)) _, hg2⟩
set_option maxRecDepth 100000 in
set_option maxHeartbeats 4000000 in
theorem write_in (f B fd a : Nat) (rdc : Int) (dv : Value) (d : FD) (A : Option Addr) (m c : Nat) (b : List Int) (w : World) (hH : HandleIs w f ⟨(a : Int), rdc, false, false, fd⟩) (hD : DataIs w B fd dv d) (hb : BytesIn w A m c b)
    (hlt : m + a < d.bs.length) (hm2 : d.bs.length ≤ 4294967296) :
    Calls Tryd.prog 35 #[.pointer (some ⟨f, 0, none⟩), .slice A m c] w fun e w' => e = .returned (.tuple #[.int .i64 (m : Int), .nilIface]) ∧ Laid w w' f B fd ⟨(a : Int) + m, rdc, false, false, fd⟩ dv { d with bs := d.bs.take a ++ b ++ d.bs.drop (a + m), mt := 0 } := by
  obtain ⟨g, cd, cur, rfl, hBg, hcur, hncd, hcm, hsz, htk⟩ : ∃ g cap cur, dv = .slice (some ⟨g, 0, none⟩) d.bs.length cap ∧ B ≤ g ∧ w.heap[g]? = some (.cells cur tU8 (0, 0)) ∧ d.bs.length ≤ cap ∧ cap ≤ maxLen ∧ cur.size = cap * 1 ∧ cur.toList.take (d.bs.length * 1) = d.bs.map (Value.int .u8) := by
    rcases hD.2.1.2 with ⟨_, h0⟩ | ⟨g, cap, cur, h⟩
    · omega
    · exact ⟨g, cap, cur, h⟩
  rw [Nat.mul_one] at hsz htk
  have hbl := hb.len
  obtain ⟨l1, hE1⟩ : ∃ l1, d.bs.take a ++ b = l1 := ⟨_, rfl⟩
  obtain ⟨l2, hE2⟩ : ∃ l2, d.bs.drop (a + m) = l2 := ⟨_, rfl⟩
  obtain ⟨C, hC⟩ : ∃ C, cur.toList.take a ++ b.map (Value.int .u8) ++ cur.toList.drop (a + m) = C := ⟨_, rfl⟩
  have hl1 : l1.length = a + m := by rw [← hE1]; simp [hbl]; omega
  have hl2 : l2.length = d.bs.length - (m + a) := by rw [← hE2]; simp; omega
  have hCl : C.length = cd := by rw [← hC]; simp [hbl]; omega
  have hta : cur.toList.take a = (d.bs.take a).map (Value.int .u8) := by
    have := congrArg (List.take a) htk
    rw [List.take_take, Nat.min_eq_left (by omega), ← List.map_take] at this
    exact this
  have hC1 : C.take (a + m) = l1.map (Value.int .u8) := by
    rw [← hC, ← hE1, hta, List.map_append, List.take_append_of_le_length (by simp [hbl]; omega), List.take_of_length_le (by simp [hbl]; omega)]
  have hC2 : (C.drop (m + a)).take (d.bs.length - (m + a)) = l2.map (Value.int .u8) := by
    rw [← hC, ← hE2, List.drop_append, List.drop_eq_nil_of_le (by simp [hbl]; omega), List.nil_append, List.map_drop, ← htk, List.drop_take]
    have e1 : m + a - (cur.toList.take a ++ b.map (Value.int .u8)).length = 0 := by simp [hbl]; omega
    rw [e1, List.drop_zero, Nat.add_comm m a]
  have hf1 : ∀ x ∈ l1, 0 ≤ x ∧ x ≤ 255 := fun x hx => by
    rw [← hE1] at hx
    rcases List.mem_append.1 hx with h | h
    · exact hD.2.2 x (List.mem_of_mem_take h)
    · exact hb.fits x h
  have hf2 : ∀ x ∈ l2, 0 ≤ x ∧ x ≤ 255 := fun x hx => by
    rw [← hE2] at hx
    exact hD.2.2 x (List.mem_of_mem_drop hx)
  rw [hE1, hE2]
  have hR := run_room (P := Tryd.prog) (w := w.drew) 22 22 5 Tryd.underlying22 infoU8 g a cd cur hcur hcm hsz A m c b (hb.below ((Below.refl _ _).drew)) (by omega)
  rw [hC] at hR
  have HC := Lib.hid hC
  have HCl := Lib.hid hCl
  have HC1 := Lib.hid hC1
  have HC2 := Lib.hid hC2
  have HL1 := Lib.hid hl1
  have HL2 := Lib.hid hl2
  have hl1' : l1.length ≤ 4294967296 := by omega
  have HF1 := Lib.hid hf1
  have HF2 := Lib.hid hf2
  have HR : Hid (∃ v' w', (Builtin.append_ #[22, 22] 22 #[.slice (some ⟨g, 0, none⟩) a cd, .slice A m c]).run Tryd.prog w.drew = .ok v' w' ∧ (v' = .slice (some ⟨g, 0, none⟩) (a + m) cd ∧ w'.heap[g]? = some (.cells C.toArray tU8 (0, 0)) ∧ Wrote (fun k => k = g) w w')) := by
    obtain ⟨w', h1, h2, h3, _⟩ := hR
    exact ⟨_, w', h1, rfl, h2, ⟨h3.os, h3.tape, h3.output, h3.size, h3.block⟩⟩
  clear hE1 hE2 hC hl1 hl2 hCl hta hC1 hC2 hf1 hf2 hR hsz htk hbl
  have c0 := (cell_of hH 0).trans rfl
  have c2 := (cell_of hH 2).trans rfl
  have c3 := (cell_of hH 3).trans rfl
  have c4 := (cell_of hH 4).trans rfl
  have d1 := (cell_of hD.1 1).trans rfl
  have f0 := free_of hH 0
  have g1 := free_of hD.1 1
  have hac : a ≤ cd := by omega
  have hne : (cd = m + a) = False := eq_false (by omega)
  have hle : m + a ≤ d.bs.length := by omega
  have hgf := row_fd hD g rfl
  have hgh := row_fh hD hH g rfl
  go_enter Tryd.func35, Tryd.ntmps35
  go_upto_region 14 with fail
  go_cut [] (fun wx => InRel w wx f B fd g ⟨(a : Int), rdc, false, false, fd⟩ (.slice (some ⟨g, 0, none⟩) (a + m) cd) { d with bs := l1 } C)
  case first =>
    go_region_law (refine step_append_run rfl (.tmp 115) (.tmp 116) 22 rfl (.slice (some ⟨g, 0, none⟩) a cd) (.slice A m c) (by simp [Act.eval, Act.put]) (by simp [Act.eval, Act.put]) _ HR.out ?_; rintro v1 w1 ⟨ev1, hg1, hw1⟩; subst ev1; have hd1 := (hw1.block fd (lt_of_heap hD.1) (fun e => hgf e.symm)).trans hD.1; have hh1 := hH.wrote hw1 (fun e => hgh e.symm); have e4 := (cell_of hh1 4).trans rfl; have e1 := (cell_of hd1 1).trans rfl; have e1f := free_of hd1 1)
    all_goals
      go_wp2_with fail
      go_meet
      exact in_store hH hD rfl hw1 hg1 hBg (by omega) hcm HCl.out HC1.out HL1.out HF1.out
  case rest =>
    obtain ⟨hH1, hD1, hW1, hg1⟩ := hcut
    clear c0 c2 c3 c4 d1 f0 g1 HR
    have c0 := (cell_of hH1 0).trans rfl
    have c4 := (cell_of hH1 4).trans rfl
    have d1 := (cell_of hD1.1 1).trans rfl
    have f0 := free_of hH1 0
    have g1 := free_of hD1.1 1
    have hR := run_room (P := Tryd.prog) (w := wc.drew) 22 22 5 Tryd.underlying22 infoU8 g (a + m) cd C.toArray hg1 hcm (by simp [HCl.out]) (some ⟨g, m + a, none⟩) (d.bs.length - (m + a)) (cd - (m + a)) l2 ((tail_bytes hg1 HC2.out HL2.out (by omega) (by omega) HF2.out).below ((Below.refl _ _).drew)) (by omega)
    have HR : Hid (∃ v' w', (Builtin.append_ #[22, 22] 22 #[.slice (some ⟨g, 0, none⟩) (a + m) cd, .slice (some ⟨g, m + a, none⟩) (d.bs.length - (m + a)) (cd - (m + a))]).run Tryd.prog wc.drew = .ok v' w' ∧ (v' = .slice (some ⟨g, 0, none⟩) d.bs.length cd ∧ w'.heap[g]? = some (.cells (C.take (a + m) ++ l2.map (Value.int .u8) ++ C.drop d.bs.length).toArray tU8 (0, 0)) ∧ Wrote (fun k => k = g) wc w')) := by
      obtain ⟨w', h1, h2, h3, _⟩ := hR
      have e : a + m + (d.bs.length - (m + a)) = d.bs.length := by omega
      rw [e] at h1 h2
      exact ⟨_, w', h1, rfl, h2, ⟨h3.os, h3.tape, h3.output, h3.size, h3.block⟩⟩
    obtain ⟨C2, hE2⟩ : ∃ C2, C.take (a + m) ++ l2.map (Value.int .u8) ++ C.drop d.bs.length = C2 := ⟨_, rfl⟩
    have hC2l : C2.length = cd := by rw [← hE2]; simp [HCl.out, HL2.out]; omega
    have hC2t : C2.take d.bs.length = (l1 ++ l2).map (Value.int .u8) := by
      rw [← hE2, HC1.out, ← List.map_append, List.take_append_of_le_length (by simp [HL1.out, HL2.out]; omega), List.take_of_length_le (by simp [HL1.out, HL2.out]; omega)]
    have hl12 : (l1 ++ l2).length = d.bs.length := by simp [HL1.out, HL2.out]; omega
    have hf12 : ∀ x ∈ l1 ++ l2, 0 ≤ x ∧ x ≤ 255 := fun x hx => by
      rcases List.mem_append.1 hx with h | h
      · exact HF1.out x h
      · exact HF2.out x h
    rw [hE2] at HR
    have HA := Lib.hid hC2l
    have HB2 := Lib.hid hC2t
    have HC3 := Lib.hid hl12
    have HD3 := Lib.hid hf12
    clear hR hE2 hC2l hC2t hl12 hf12
    go_upto_region 15 with fail
    go_cut [] (fun wx => InRel wc wx f B fd g ⟨(a : Int), rdc, false, false, fd⟩ (.slice (some ⟨g, 0, none⟩) d.bs.length cd) { d with bs := l1 ++ l2 } C2)
    case first =>
      go_region_law (refine step_append_run rfl (.tmp 130) (.tmp 131) 22 rfl (.slice (some ⟨g, 0, none⟩) (a + m) cd) (.slice (some ⟨g, m + a, none⟩) (d.bs.length - (m + a)) (cd - (m + a))) (by simp [Act.eval]) (by simp [Act.eval]) _ HR.out ?_; rintro v1 w1 ⟨ev1, hg2, hw1⟩; subst ev1; have hd1 := (hw1.block fd (lt_of_heap hD1.1) (fun e => hgf e.symm)).trans hD1.1; have hh1 := hH1.wrote hw1 (fun e => hgh e.symm); have e4 := (cell_of hh1 4).trans rfl; have e1 := (cell_of hd1 1).trans rfl; have e1f := free_of hd1 1)
      all_goals
        go_wp2_with fail
        go_meet
        exact in_store (d := { d with bs := l1 }) hH1 hD1 rfl hw1 hg2 hBg hncd hcm HA.out HB2.out HC3.out HD3.out
    case rest =>
      obtain ⟨hH2, hD2, hW2, hg2⟩ := hcut
      clear c0 c4 d1 f0 g1 HR
      have c4 := (cell_of hH2 4).trans rfl
      go_wp2_with (go_at_call 68; refine (set_mt fd B _ _ 0 _ hD2).mono ?_; rintro e w3 ⟨rfl, hD3, hW3⟩; have hH3 := hH2.wrote hW3 (fun e => fd_ne hD2 hH2 e.symm); have q0 := (cell_of hH3 0).trans rfl; have q0f := free_of hH3 0)
      go_ret2
      have hS : ∀ (k : Nat), (k = f ∨ k = fd ∨ k = g) → (k = f ∨ k = fd ∨ (Value.slice (some ⟨g, 0, none⟩) d.bs.length cd).ownBlock = some k) := fun k hk => by
        rcases hk with e | e | e
        · exact .inl e
        · exact .inr (.inl e)
        · exact .inr (.inr (by subst e; rfl))
      exact ⟨rfl, Laid.trans (hW1.mono (fun k _ hk => hS k hk)) (.inl rfl) (Laid.trans (hW2.mono (fun k _ hk => hS k hk)) (.inl rfl) (laid_last hH2 hD2 hD3 hW3 _))⟩
end Go.Proofs.YtnkhfdnahnphdaaDoor
end
section
namespace Go.Proofs.YtnkhfdnahnphdaaDoor
open Go.ChangeShapes Go.WideShapes Go.ChangeAt Go.RowKit Go.Rd
open Go.Proofs.YtnkhfdnahnphdaaDoorW.PrintWords Go.Proofs.YtnkhfdnahnphdaaDoorW.PrintLast Go.Proofs.YtnkhfdnahnphdaaDoorW.PrintMore
/-- Bytes laid over others at a place within them, or at their end. -/
def over (bs : List Int) (a : Nat) (b : List Int) : List Int := bs.take a ++ b ++ bs.drop (a + b.length)
theorem write_any (f B fd a : Nat) (rdc : Int) (dv : Value) (d : FD) (A : Option Addr) (m c : Nat) (b : List Int) (w : World) (hH : HandleIs w f ⟨(a : Int), rdc, false, false, fd⟩) (hD : DataIs w B fd dv d) (hb : BytesIn w A m c b)
    (ha : a ≤ d.bs.length) (hm : m ≤ 4294967296) (hm2 : d.bs.length ≤ 4294967296) (hB : B ≤ w.heap.size) :
    Calls Tryd.prog 35 #[.pointer (some ⟨f, 0, none⟩), .slice A m c] w fun e w' => e = .returned (.tuple #[.int .i64 (m : Int), .nilIface]) ∧ Laid w w' f B fd ⟨(a : Int) + m, rdc, false, false, fd⟩ dv { d with bs := over d.bs a b, mt := 0 } := by
  unfold over
  rw [hb.len]
  by_cases h : m + a < d.bs.length
  · exact write_in f B fd a rdc dv d A m c b w hH hD hb h hm2
  · have e : d.bs.drop (a + m) = [] := List.drop_eq_nil_of_le (by omega)
    rw [e, List.append_nil]
    exact write_flat f B fd a rdc dv d A m c b w hH hD hb ha (by omega) hm hm2 hB
/-- The step's cells in its box. -/
theorem first_new (w : World) (o1 o2 o3 : Obj) : (((w.alloc o1).alloc o2).alloc o3).heap[w.heap.size]? = some o1 := alloc_keeps (alloc_keeps (alloc_new w o1) o2) o3
theorem HandleIs.drew {w : World} {f : Nat} {h : FH} (hh : HandleIs w f h) : HandleIs w.drew f h := hh
theorem DataIs.drew {w : World} {B fd : Nat} {dv : Value} {d : FD} (hd : DataIs w B fd dv d) : DataIs w.drew B fd dv d := hd
end Go.Proofs.YtnkhfdnahnphdaaDoor
end
section
namespace Go.Proofs.YtnkhfdnahnphdaaDoor
open Go.ChangeShapes Go.WideShapes Go.ChangeAt Go.RowKit Go.Rd
open Go.Proofs.YtnkhfdnahnphdaaDoorW.PrintWords Go.Proofs.YtnkhfdnahnphdaaDoorW.PrintLast Go.Proofs.YtnkhfdnahnphdaaDoorW.PrintMore
theorem Runs.len {s sn : St} {L : List (Stp × List Int)} {l : List Ans} (h : Runs s L l sn) : l.length = L.length := by
  induction h with
  | nil => rfl
  | cons _ _ ih => simp [ih]
end Go.Proofs.YtnkhfdnahnphdaaDoor
end
section
namespace Go.Proofs.YtnkhfdnahnphdaaDoor
open Go.ChangeShapes Go.WideShapes Go.ChangeAt Go.RowKit Go.Rd
open Go.Proofs.YtnkhfdnahnphdaaDoorW.PrintWords Go.Proofs.YtnkhfdnahnphdaaDoorW.PrintLast Go.Proofs.YtnkhfdnahnphdaaDoorW.PrintMore
/-- A region's step that appends zeros, by its run. -/
theorem step_append_run2 {P : Program} {w : World} {ops : Array Oper} {o : Oper} {a : Act} {K : Act → World → Prop} {Q : Exit → Act → World → Prop} {E : Prop} (hgd : o.guard = none) (s x : Operand) (t u : TypeId)
    (ho : o.op = .call { callee := .builtin .append, args := #[s, x], argTypes := #[t, u] }) (v y : Value) (hs : a.eval s = v) (hx : a.eval x = y) (R : Value → World → Prop)
    (hrun : ∃ v' w', (Builtin.append_ #[t, u] o.type #[v, y]).run P w = .ok v' w' ∧ R v' w') (h : ∀ v' w', R v' w' → K (a.put o.dst v') w') :
    if Region.wanted o (yielded ops a.tmps) = true then Oper.wp P o a w K Q else E := by
  have hw : Region.wanted o (yielded ops a.tmps) = true := by simp [Region.wanted, hgd]
  rw [if_pos hw]
  obtain ⟨v', w', hr, hR⟩ := hrun
  unfold Oper.wp execOp
  simp only [ho, resolve, invoke, builtin, Sem.run_bind, Sem.run_pure, Result.andThen_ok, List.map_toArray, List.map_cons, List.map_nil, hs, hx, hr]
  exact h v' w' hR
theorem zeros_map (m : Nat) : (Builtin.zeroCells (Value.int .u8 0).cells m).toList = (List.replicate m (0 : Int)).map (Value.int .u8) := by
  have h := Kd.reps_zeros (R := fun (x : Int) (cs : List Value) => cs = [.int .u8 x]) (z := .int .u8 0) (size := 1) (z0 := 0) rfl (by decide) rfl m
  apply List.ext_getElem?
  intro i
  by_cases hi : i < m
  · have h1 := h.2 i 0 (by simp [hi])
    have h2 := congrArg (·[0]?) h1
    simp only [Nat.mul_one, List.getElem?_take_of_lt (Nat.zero_lt_one), List.getElem?_drop, Nat.add_zero] at h2
    rw [h2]
    simp [hi]
  · rw [List.getElem?_eq_none (by rw [h.1]; simp; omega), List.getElem?_eq_none (by simp; omega)]
set_option maxRecDepth 100000 in
set_option maxHeartbeats 2000000 in
theorem trunc_grow (f B fd s : Nat) (x rdc : Int) (dv : Value) (d : FD) (w : World) (hH : HandleIs w f ⟨x, rdc, false, false, fd⟩) (hD : DataIs w B fd dv d) (hs : d.bs.length < s) (hs2 : s ≤ 4294967296) (hB : B ≤ w.heap.size) :
    Calls Tryd.prog 38 #[.pointer (some ⟨f, 0, none⟩), .int .i64 (s : Int)] w fun e w' => e = .returned .nilIface ∧ Laid w w' f B fd ⟨x, rdc, false, false, fd⟩ dv { d with bs := d.bs ++ List.replicate (s - d.bs.length) 0, mt := 0 } := by
  obtain ⟨Ad, cd, rfl⟩ := hD.slice
  obtain ⟨l1, hE⟩ : ∃ l, d.bs ++ List.replicate (s - d.bs.length) 0 = l := ⟨_, rfl⟩
  have hl1 : l1.length = s := by rw [← hE]; simp; omega
  have hf1 : ∀ y ∈ l1, 0 ≤ y ∧ y ≤ 255 := fun y hy => by
    rw [← hE] at hy
    rcases List.mem_append.1 hy with h | h
    · exact hD.2.2 y h
    · rw [(List.mem_replicate.1 h).2]; omega
  have c2 := (cell_of hH 2).trans rfl
  have c3 := (cell_of hH 3).trans rfl
  have c4 := (cell_of hH 4).trans rfl
  have d1 := (cell_of hD.1 1).trans rfl
  have g1 := free_of hD.1 1
  obtain ⟨i0, hi, hzz⟩ := Option.map_eq_some_iff.1 infoU8
  simp only [Prod.mk.injEq] at hzz
  have hR := run_append_zeros (P := Tryd.prog) w.drew B 22 3 22 5 i0 (.int .u8 0) 1 1 Tryd.underlying22 (k := .i64) Tryd.underlying3 hi hzz.1 hzz.2.1 hzz.2.2 rfl (by decide) (by decide) (.slice Ad d.bs.length cd) d.bs.length _ (World.ownsRow.drew hD.2.1) .i64 (s - d.bs.length)
    (by rw [zeros_map]; intro u hu; obtain ⟨z, _, rfl⟩ := List.mem_map.1 hu; rfl) (by omega) hB
  have e1 : ((s - d.bs.length : Nat) : Int) = (s : Int) - d.bs.length := by omega
  have e2 : d.bs.length + (s - d.bs.length) = s := by omega
  rw [zeros_map, ← List.map_append, hE, e1, e2] at hR
  have HR := Lib.hid hR
  rw [hE]
  have HL1 := Lib.hid hl1
  have HF1 := Lib.hid hf1
  clear hE hl1 hf1 hR e1 e2 hzz
  go_enter Tryd.func38, Tryd.ntmps38
  go_upto_region 9 with fail
  go_cut [] (fun wx => Laid w wx f B fd ⟨x, rdc, false, false, fd⟩ (.slice Ad d.bs.length cd) { d with bs := l1 })
  case first =>
    go_region_law (refine step_append_run2 rfl (.tmp 59) (.tmp 60) 22 3 rfl (.slice Ad d.bs.length cd) (.int .i64 ((s : Int) - d.bs.length)) (by simp [Act.eval]) (by simp [Act.eval]) _ HR.out ?_; rintro v1 w1 ⟨ho1, hg1, hat1⟩; obtain ⟨A1, c1, ev1⟩ := own_slice ho1; subst ev1; have hw1 := wrote_grown hg1; have hd1 := (hw1.block fd (lt_of_heap hD.1) (fun e => row_fd hD fd e rfl)).trans hD.1; have hh1 := hH.wrote (w := w.drew) hw1 (fun e => row_fh hD hH f e rfl); have e4 := (cell_of hh1 4).trans rfl; have e1 := (cell_of hd1 1).trans rfl; have e1f := free_of hd1 1)
    all_goals
      go_wp2_with fail
      go_meet
      exact Laid.of_drew <| laid_store (w := w.drew) (l := l1) hH hD ho1 hg1 hat1 HL1.out.symm rfl HF1.out
  case rest =>
    obtain ⟨dv2, hH2, hD2, hW2, hat2⟩ := hcut
    clear c2 c3 c4 d1 g1 HR
    have c4 := (cell_of hH2 4).trans rfl
    go_wp2_with (go_at_call 68; refine (set_mt fd B dv2 _ 0 _ hD2).mono ?_; rintro e w3 ⟨rfl, hD3, hW3⟩)
    go_ret
    exact ⟨rfl, Laid.trans hW2 hat2 ⟨dv2, hH2.wrote hW3 (fun e => fd_ne hD2 hH2 e.symm), hD3, hW3.mono (fun k _ hk => .inr (.inl hk)), .inl rfl⟩⟩
theorem cut_run (A : Option Addr) (n c s : Nat) (h : s ≤ c) (W : World) : (Instr.slice 22 (.slice A n c) (some (.int .i64 0)) (some (.int .i64 (s : Int))) none).run Tryd.prog W = .ok (.slice A s c) W := by
  have hu := Tryd.underlying22
  go_simp
set_option maxRecDepth 100000 in
set_option maxHeartbeats 2000000 in
theorem trunc_cut (f B fd s : Nat) (x rdc : Int) (dv : Value) (d : FD) (w : World) (hH : HandleIs w f ⟨x, rdc, false, false, fd⟩) (hD : DataIs w B fd dv d) (hs : s ≤ d.bs.length) :
    Calls Tryd.prog 38 #[.pointer (some ⟨f, 0, none⟩), .int .i64 (s : Int)] w fun e w' => e = .returned .nilIface ∧ Laid w w' f B fd ⟨x, rdc, false, false, fd⟩ dv { d with bs := d.bs.take s, mt := 0 } := by
  obtain ⟨Ad, cd, rfl⟩ := hD.slice
  have hcap : d.bs.length ≤ cd := own_cap hD.2.1
  have c2 := (cell_of hH 2).trans rfl
  have c3 := (cell_of hH 3).trans rfl
  have c4 := (cell_of hH 4).trans rfl
  have d1 := (cell_of hD.1 1).trans rfl
  have g1 := free_of hD.1 1
  have hrun := cut_run Ad d.bs.length cd s (by omega)
  go_enter Tryd.func38, Tryd.ntmps38
  go_upto_region 10 with fail
  go_cut [] (fun wx => wx = w.drew.setCell ⟨fd, 1, none⟩ (.slice Ad s cd))
  case first =>
    go_region
    all_goals
      go_wp2_with fail
      go_meet
      rfl
  case rest =>
    have hL : Laid w wc f B fd ⟨x, rdc, false, false, fd⟩ (.slice Ad d.bs.length cd) { d with bs := d.bs.take s } := by
      rw [hcut]
      exact Laid.of_drew (laid_store (w := w.drew) (w1 := w.drew) (l := d.bs.take s) hH hD (World.ownsRow.drew (own_take hD.2.1 hs)) ⟨rfl, rfl, rfl, Nat.le_refl _, fun _ _ _ => rfl⟩ (.inl (own_cut Ad s d.bs.length cd)) (by simp; omega) (by simp) (fun y hy => hD.2.2 y (List.mem_of_mem_take hy)))
    clear hcut
    obtain ⟨dv2, hH2, hD2, hW2, hat2⟩ := hL
    clear c2 c3 c4 d1 g1 hrun
    have c4 := (cell_of hH2 4).trans rfl
    go_wp2_with (go_at_call 68; refine (set_mt fd B dv2 _ 0 _ hD2).mono ?_; rintro e w3 ⟨rfl, hD3, hW3⟩)
    go_ret
    exact ⟨rfl, Laid.trans hW2 hat2 ⟨dv2, hH2.wrote hW3 (fun e => fd_ne hD2 hH2 e.symm), hD3, hW3.mono (fun k _ hk => .inr (.inl hk)), .inl rfl⟩⟩
/-- Bytes cut, or filled up with zeros. -/
def cutTo (bs : List Int) (s : Nat) : List Int := bs.take s ++ List.replicate (s - bs.length) 0
theorem trunc_any (f B fd s : Nat) (x rdc : Int) (dv : Value) (d : FD) (w : World) (hH : HandleIs w f ⟨x, rdc, false, false, fd⟩) (hD : DataIs w B fd dv d) (hs2 : s ≤ 4294967296) (hB : B ≤ w.heap.size) :
    Calls Tryd.prog 38 #[.pointer (some ⟨f, 0, none⟩), .int .i64 (s : Int)] w fun e w' => e = .returned .nilIface ∧ Laid w w' f B fd ⟨x, rdc, false, false, fd⟩ dv { d with bs := cutTo d.bs s, mt := 0 } := by
  unfold cutTo
  by_cases h : d.bs.length < s
  · rw [List.take_of_length_le (by omega)]
    exact trunc_grow f B fd s x rdc dv d w hH hD h hs2 hB
  · have e : s - d.bs.length = 0 := by omega
    rw [e, List.replicate_zero, List.append_nil]
    exact trunc_cut f B fd s x rdc dv d w hH hD (by omega)
end Go.Proofs.YtnkhfdnahnphdaaDoor
end
