/- Parts of the proof, merged: WLast, WApart, WArr, WZeros, WFoot, WKept, WShare, WN, WMore, WRepsOne, Kx, Fl, OnWalk. -/
import Derived.BigQuiet
import Derived.ChangeAlike
import Derived.ChangeSlices
import Derived.Deep.LoopGhost
import Derived.Deep.QuietTactic
import Derived.Deep.RegionHeld3
import Derived.LaidEqlPtr
import Derived.Laws.BitsLemmas
import Derived.OrdersHeld
import Derived.ProofKit
import Derived.RegionTactic
import Derived.RowKit
import Derived.SizedLaws
import Derived.Test.YtnkhfdnahnphdaaDoorProg
import Derived.WalkKit
import Derived.WalkLawsBesides
import Derived.WalkSpells
import Derived.Test.YtnkhfdnahnphdaaDoorZc01
import Derived.Test.YtnkhfdnahnphdaaDoorZc02
section
namespace Go.Proofs.YtnkhfdnahnphdaaDoorW.PrintLast
section
variable {P : Program} {ops : Array Oper} {Q : Exit → Act → World → Prop} {md : Region.Mode} {S : World → Prop} {ds : List Nat}
/-- Operation d waits for operation i, by a chain of at most 'fuel' edges. -/
def Region.reachB (md : Region.Mode) (ops : Array Oper) (i : Nat) : Nat → Nat → Bool
  | 0, _ => false
  | fuel + 1, d => match ops[d]? with
    | some o => o.after.any fun e => Region.binds md e && (e.on == i || Region.reachB md ops i fuel e.on)
    | none => false
/-- What is listed is closed under the edges. -/
def Region.closedB (md : Region.Mode) (ops : Array Oper) (listed : Array Bool) : Bool :=
  (List.range ops.size).all fun j => !listed.getD j false || match ops[j]? with
    | some o => o.after.all fun e => !Region.binds md e || listed.getD e.on false
    | none => true
/-- Each of ds that has not come up yet waits for number i. -/
def Region.lastB (md : Region.Mode) (ops : Array Oper) (listed : Array Bool) (ds : List Nat) (i : Nat) : Bool :=
  ds.all fun d => listed.getD d true || Region.reachB md ops i ops.size d
def ListedClosed (md : Region.Mode) (ops : Array Oper) (listed : Array Bool) : Prop :=
  ∀ j oj, ops[j]? = some oj → listed.getD j false = true → ∀ e ∈ oj.after, Region.binds md e = true → listed.getD e.on false = true
theorem Region.closedB_spec {listed : Array Bool} (h : Region.closedB md ops listed = true) : ListedClosed md ops listed := by
  intro j oj hj hl e he hb
  have hlt : j < ops.size := (Array.getElem?_eq_some_iff.1 hj).1
  have h1 := List.all_eq_true.1 h j (List.mem_range.2 hlt)
  simp only [hl, hj, Bool.not_true, Bool.false_or] at h1
  have h2 := Array.all_eq_true_iff_forall_mem.1 h1 e he
  simpa [hb] using h2
theorem ListedClosed.set {listed : Array Bool} {i : Nat} (h : ListedClosed md ops listed) (hi : i ∈ Region.ready md ops listed) : ListedClosed md ops (listed.setIfInBounds i true) := by
  obtain ⟨_, oi, hoi, hall⟩ := mem_ready.1 hi
  intro j oj hj hl e he hb
  by_cases hij : i = j
  · subst hij
    have : oj = oi := Option.some.inj (hj.symm.trans hoi)
    subst this
    exact getD_set_true (hall e he hb)
  · rw [getD_set_ne false hij] at hl
    exact getD_set_true (h j oj hj hl e he hb)
theorem Region.reach_listed {listed : Array Bool} {i : Nat} (hc : ListedClosed md ops listed) : ∀ (fuel d : Nat), Region.reachB md ops i fuel d = true → listed.getD d false = true → listed.getD i false = true
  | 0, _, h, _ => by simp [Region.reachB] at h
  | fuel + 1, d, h, hl => by
    unfold Region.reachB at h
    cases ho : ops[d]? with
    | none => rw [ho] at h; simp at h
    | some o =>
      rw [ho] at h
      obtain ⟨e, he, h1⟩ := Array.any_eq_true'.1 h
      simp only [Bool.and_eq_true, Bool.or_eq_true, beq_iff_eq] at h1
      have hle := hc d o ho hl e he h1.1
      rcases h1.2 with h2 | h2
      · rw [← h2]; exact hle
      · exact Region.reach_listed hc fuel e.on h2 hle
/-- What waits for i cannot come up before i is listed. -/
theorem Region.reach_not_ready {listed : Array Bool} {i d fuel : Nat} (hc : ListedClosed md ops listed) (hr : Region.reachB md ops i fuel d = true) (hun : listed.getD i true = false) : d ∉ Region.ready md ops listed := by
  intro hd
  obtain ⟨_, o, ho, hall⟩ := mem_ready.1 hd
  have hi : listed.getD i false = true := by
    cases fuel with
    | zero => simp [Region.reachB] at hr
    | succ n =>
      unfold Region.reachB at hr
      rw [ho] at hr
      obtain ⟨e, he, h1⟩ := Array.any_eq_true'.1 hr
      simp only [Bool.and_eq_true, Bool.or_eq_true, beq_iff_eq] at h1
      have hle := hall e he h1.1
      rcases h1.2 with h2 | h2
      · rw [← h2]; exact hle
      · exact Region.reach_listed hc n e.on h2 hle
  rcases Nat.lt_or_ge i listed.size with h' | h'
  · simp [h'] at hun hi
    rw [hun] at hi
    cases hi
  · simp [Array.getElem?_eq_none h'] at hun
/-- Whatever order is picked from here on, AND 'S' HOLDS BEHIND EVERY OPERATION THAT IS CARRIED OUT, those of ds apart. -/
def wpAnyLast (P : Program) (md : Region.Mode) (ops : Array Oper) (Q : Exit → Act → World → Prop) (S : World → Prop) (ds : List Nat) : Nat → Array Bool → Act → World → Prop
  | 0, listed, a, w => Region.ready md ops listed = [] ∧ Q .normal a w
  | fuel + 1, listed, a, w =>
    (Region.ready md ops listed = [] → Q .normal a w) ∧
    ∀ i ∈ Region.ready md ops listed, wpOp P ops Q i (fun a' w' => (i ∉ ds → S w → S w') ∧ wpAnyLast P md ops Q S ds fuel (listed.setIfInBounds i true) a' w') a w
theorem wpAnyLast_first {i : Nat} {oi : Oper} {v : Value} (hi : ops[i]? = some oi) (hsel : ∀ (j : Nat) (o : Oper) cs b, ops[j]? = some o → o.op ≠ .select cs b)
    (hQ : ∀ c a w, Q (.panic c) (a.put oi.dst v) w → Q (.panic c) a w) (n : Nat) :
    ∀ (fuel : Nat) (listed : Array Bool) (a : Act) (w : World),
      (∀ j oj, ops[j]? = some oj → j ≠ i → listed.getD j true = false → (∀ e ∈ oj.after, Region.binds md e = true → e.on ≠ i) → oi.apart ops oj = true) →
      ListedClosed md ops listed → (∀ d ∈ ds, listed.getD d true = false → Region.reachB md ops i n d = true) →
      i ∈ Region.ready md ops listed → YieldsIf P ops S oi v a → S w →
      wpAnyLast P md ops Q S ds fuel (listed.setIfInBounds i true) (a.put oi.dst v) w → wpAnyLast P md ops Q S ds (fuel + 1) listed a w := by
  intro fuel
  induction fuel with
  | zero =>
    intro listed a w _ _ _ hr hy hS H
    refine ⟨fun h => (by rw [h] at hr; cases hr), fun j hj => ?_⟩
    by_cases hji : j = i
    · subst hji; exact hy.wpOp hi hS ⟨fun _ h => h, H⟩
    · have := ready_mono hj hji
      rw [H.1] at this
      cases this
  | succ fuel ih =>
    intro listed a w hfree hc hd hr hy hS H
    refine ⟨fun h => (by rw [h] at hr; cases hr), fun j hj => ?_⟩
    by_cases hji : j = i
    · subst hji; exact hy.wpOp hi hS ⟨fun _ h => h, H⟩
    · have h1 := H.2 j (ready_mono hj hji)
      obtain ⟨hjun, oj, hoj, hall⟩ := mem_ready.1 hj
      have hiun := (mem_ready.1 hr).1
      have hnot : ∀ e ∈ oj.after, Region.binds md e = true → e.on ≠ i := fun e he hb heq => by
        have h1 := hall e he hb
        rw [heq] at h1
        rcases Nat.lt_or_ge i listed.size with h' | h'
        · simp [h'] at hiun h1; rw [hiun] at h1; cases h1
        · simp [Array.getElem?_eq_none h'] at h1
      have hjd : j ∉ ds := fun hm => Region.reach_not_ready hc (hd j hm hjun) hiun hj
      have h2 := wpOp_putIf hoj (hfree j oj hoj hji hjun hnot) (fun cs b => hsel i oi cs b hi) (fun cs b => hsel j oj cs b hoj) hQ hy h1
      have hfree' : ∀ k ok, ops[k]? = some ok → k ≠ i → (listed.setIfInBounds j true).getD k true = false →
          (∀ e ∈ ok.after, Region.binds md e = true → e.on ≠ i) → oi.apart ops ok = true := fun k ok hk hki hun hno => by
        refine hfree k ok hk hki ?_ hno
        by_cases hjk : j = k
        · subst hjk; exact hjun
        · rw [getD_set_ne true hjk] at hun; exact hun
      have hd' : ∀ d ∈ ds, (listed.setIfInBounds j true).getD d true = false → Region.reachB md ops i n d = true := fun d hm hun => by
        refine hd d hm ?_
        by_cases hjk : j = d
        · subst hjk; exact hjun
        · rw [getD_set_ne true hjk] at hun; exact hun
      refine wpOp_mono (fun a' w' h3 => ⟨h3.2.1, ih (listed.setIfInBounds j true) a' w' hfree' (hc.set hj) hd' (ready_mono hr (Ne.symm hji)) h3.1 (h3.2.1 hjd hS) ?_⟩) h2
      rw [Array.setIfInBounds_comm _ _ hji]
      exact h3.2.2
/-- Take number 'i' first. -/
theorem wpAnyLast_take {i : Nat} {oi : Oper} {v : Value} {fuel : Nat} {listed : Array Bool} {a : Act} {w : World} (hi : ops[i]? = some oi)
    (hs : Region.noSelect ops = true) (hf : Region.free md ops listed i = true) (hr : (Region.ready md ops listed).contains i = true)
    (hc : Region.closedB md ops listed = true) (hl : Region.lastB md ops listed ds i = true)
    (hQ : ∀ c a w, Q (.panic c) (a.put oi.dst v) w → Q (.panic c) a w) (hy : YieldsIf P ops S oi v a) (hS : S w)
    (h : wpAnyLast P md ops Q S ds fuel (listed.setIfInBounds i true) (a.put oi.dst v) w) : wpAnyLast P md ops Q S ds (fuel + 1) listed a w :=
  wpAnyLast_first hi (Region.noSelect_spec hs) hQ ops.size fuel listed a w (Region.free_spec hi hf) (Region.closedB_spec hc)
    (fun d hm hun => by have := List.all_eq_true.1 hl d hm; rw [hun] at this; simpa using this) (by simpa using hr) hy hS h
end
section
variable {P : Program} {ops : Array Oper} {Q : Exit → Act → World → Prop} {md : Region.Mode} {S : World → Prop} {ds : List Nat}
def AllReadyL (P : Program) (md : Region.Mode) (ops : Array Oper) (Q : Exit → Act → World → Prop) (S : World → Prop) (ds : List Nat) (fuel : Nat) (listed : Array Bool) (a : Act) (w : World) (rs : List Nat) : Prop :=
  ∀ i ∈ rs, wpOp P ops Q i (fun a' w' => (i ∉ ds → S w → S w') ∧ wpAnyLast P md ops Q S ds fuel (listed.setIfInBounds i true) a' w') a w
theorem AllReadyL.nil {fuel : Nat} {listed : Array Bool} {a : Act} {w : World} : AllReadyL P md ops Q S ds fuel listed a w [] := fun _ h => by cases h
theorem AllReadyL.cons {fuel : Nat} {listed : Array Bool} {a : Act} {w : World} {i : Nat} {o : Oper} {rs : List Nat} (ho : ops[i]? = some o) (hd : i ∉ ds)
    (h : ∀ K' : Act → World → Prop, Shut (∀ a w, S w → (S w → wpAnyLast P md ops Q S ds fuel (listed.setIfInBounds i true) a w) → K' a w) → if Region.wanted o (yielded ops a.tmps) = true then Oper.wp P o a w K' Q else K' (a.put o.dst undef) w)
    (hs : AllReadyL P md ops Q S ds fuel listed a w rs) : AllReadyL P md ops Q S ds fuel listed a w (i :: rs) := fun j hj => by
  rcases List.mem_cons.1 hj with rfl | hj
  · exact wpOp_step ho (fun K' hK => h K' (fun a w hS hW => hK a w ⟨fun _ _ => hS, hW hS⟩))
  · exact hs j hj
def takeB (md : Region.Mode) (ops : Array Oper) (ds : List Nat) (l l' : Array Bool) (i : Nat) : Bool :=
  Region.noSelect ops && Region.free md ops l i && (Region.ready md ops l).contains i && Region.closedB md ops l && Region.lastB md ops l ds i && (l.setIfInBounds i true == l')
theorem take_ {i : Nat} {N : Option Tmp} {oi : Oper} {v : Value} {fuel : Nat} {l : Array Bool} {a : Act} {w : World} (l' : Array Bool) (hi : ops[i]? = some oi) (hN : oi.dst = N) (hc : takeB md ops ds l l' i = true)
    (hQ : ∀ c a w, Q (.panic c) (a.put oi.dst v) w → Q (.panic c) a w) (hy : YieldsIf P ops S oi v a) (hS : S w) {a' : Act} (ha : a.put N v = a')
    (h : wpAnyLast P md ops Q S ds fuel l' a' w) : wpAnyLast P md ops Q S ds (fuel + 1) l a w := by
  subst ha
  subst hN
  simp only [takeB, Bool.and_eq_true, beq_iff_eq] at hc
  obtain ⟨⟨⟨⟨⟨h1, h2⟩, h3⟩, h4⟩, h5⟩, h6⟩ := hc
  subst h6
  exact wpAnyLast_take hi h1 h2 h3 h4 h5 hQ hy hS h
def anyB (md : Region.Mode) (ops : Array Oper) (l l' : Array Bool) (i : Nat) : Bool :=
  Region.noSelect ops && Region.free md ops l i && (Region.ready md ops l).contains i && (l.setIfInBounds i true == l')
theorem i64_w (n : Int) : IntKind.i64.wrap n = Go.RowKit.wrap64 n := by unfold Go.RowKit.wrap64; exact IntKind.wrap_i64 n
theorem i32_w (n : Int) : IntKind.i32.wrap n = Go.RowKit.wrap32 n := by unfold Go.RowKit.wrap32; exact IntKind.wrap_i32 n
end
end Go.Proofs.YtnkhfdnahnphdaaDoorW.PrintLast
end
section
namespace Go.Proofs.YtnkhfdnahnphdaaDoorW.PrintWords
open Go.RowKit
namespace Kd
/-- An element with its index: its blocks are those that f gives to it. -/
def tag {α : Type} (f : Nat → Nat) (d : Kd α) : Kd (α × Nat) where
  sz := d.sz
  E := d.E
  K := fun w x cs => d.K w x.1 cs
  M := fun w base ok x cs => d.M w base (fun k => ok k ∧ f k = x.2) x.1 cs
  K_len := fun h => d.K_len h
  K_one := fun h => d.K_one h
  K_below := fun hb h => d.K_below hb h
  K_of_M := fun h => d.K_of_M h
  M_mono := fun hok h => d.M_mono (fun k hk => ⟨hok k hk.1, hk.2⟩) h
  M_bound := fun h => d.M_mono (fun _ hk => ⟨⟨hk.1.1, hk.2⟩, hk.1.2⟩) (d.M_bound h)
  M_move := fun hm h => d.M_move (fun k hk => hm k hk.1) h
  M_lower := fun hb h => d.M_lower hb h
/-- The cells themselves. -/
def raw (sz : Nat) : Kd (List Value) where
  sz := sz
  E := []
  K := fun _ x cs => cs = x ∧ cs.length = sz ∧ ∀ u ∈ cs, u.oneCell' = true
  M := fun _ _ _ x cs => cs = x ∧ cs.length = sz ∧ ∀ u ∈ cs, u.oneCell' = true
  K_len := fun h => h.2.1
  K_one := fun h => h.2.2
  K_below := fun _ h => h
  K_of_M := fun h => h
  M_mono := fun _ h => h
  M_bound := fun h => h
  M_move := fun _ h => h
  M_lower := fun _ h => h
/-- A row of elements (type e) of the call's own, no two of which lead to one block. -/
def S {α : Type} (d : Kd α) (e : Nat) (w : World) (base : Nat) (ok : Nat → Prop) (v : Value) (xs : List α) : Prop := ∃ f, (tag f d).R e w base ok v xs.zipIdx
section
variable {α β : Type} {d : Kd α} {d' : Kd β} {e e' : Nat} {w w1 W : World} {base b : Nat} {ok ok' okv oku : Nat → Prop} {u v : Value} {xs : List α} {ys : List β}
theorem S_nil (d : Kd α) (e : Nat) (w : World) (base : Nat) (ok : Nat → Prop) : S d e w base ok (.slice none 0 0) [] := ⟨fun _ => 0, R_nil _ _ _ _ _⟩
end
section
variable {α β : Type} {d : Kd α} {d' : Kd β} {e e' g : Nat} {w w1 W : World} {base b : Nat} {ok ok' okv oku : Nat → Prop} {u v : Value} {xs : List α} {ys : List β}
end
section
open Classical in
variable {P : Program} {ops : Array Oper} {rest : List Oper} {o : Oper} {a : Act} {Q : Exit → Act → World → Prop} {Kc : Act → World → Prop} {α : Type}
end
/-- Element i is these cells; the others are d's. -/
def gap {α : Type} (f : Nat → Nat) (d : Kd α) (i : Nat) (c : List Value) : Kd (α × Nat) where
  sz := d.sz
  E := d.E
  K := fun w x cs => (x.2 = i → cs = c ∧ cs.length = d.sz ∧ ∀ u ∈ cs, u.oneCell' = true) ∧ (x.2 ≠ i → d.K w x.1 cs)
  M := fun w base ok x cs => (x.2 = i → cs = c ∧ cs.length = d.sz ∧ ∀ u ∈ cs, u.oneCell' = true) ∧ (x.2 ≠ i → d.M w base (fun k => ok k ∧ f k = x.2) x.1 cs)
  K_len := fun {w x cs} h => by
    by_cases hx : x.2 = i
    · exact (h.1 hx).2.1
    · exact d.K_len (h.2 hx)
  K_one := fun {w x cs} h => by
    by_cases hx : x.2 = i
    · exact (h.1 hx).2.2
    · exact d.K_one (h.2 hx)
  K_below := fun hb h => ⟨h.1, fun hx => d.K_below hb (h.2 hx)⟩
  K_of_M := fun h => ⟨h.1, fun hx => d.K_of_M (h.2 hx)⟩
  M_mono := fun hok h => ⟨h.1, fun hx => d.M_mono (fun k hk => ⟨hok k hk.1, hk.2⟩) (h.2 hx)⟩
  M_bound := fun h => ⟨h.1, fun hx => d.M_mono (fun _ hk => ⟨⟨hk.1.1, hk.2⟩, hk.1.2⟩) (d.M_bound (h.2 hx))⟩
  M_move := fun hm h => ⟨h.1, fun hx => d.M_move (fun k hk => hm k hk.1) (h.2 hx)⟩
  M_lower := fun hb h => ⟨h.1, fun hx => d.M_lower hb (h.2 hx)⟩
def H {α : Type} (d : Kd α) (e : Nat) (w : World) (base : Nat) (ok : Nat → Prop) (v : Value) (xs : List α) (i : Int) (oki : Nat → Prop) (c : List Value) : Prop :=
  (∀ k, oki k → ok k) ∧ ∃ f, (gap f d i.toNat c).R e w base (fun k => ok k ∧ ¬ oki k) v xs.zipIdx
section
variable {α β : Type} {d : Kd α} {e e' g n cap : Nat} {w w1 W : World} {base : Nat} {ok ok' oki okp : Nat → Prop} {u v : Value} {xs : List α} {i : Int} {c : List Value}
open Classical in
end
section
variable {P : Program} {ops : Array Oper} {rest : List Oper} {o : Oper} {a : Act} {Q : Exit → Act → World → Prop} {α : Type}
end
end Kd
end Go.Proofs.YtnkhfdnahnphdaaDoorW.PrintWords
end
section
namespace Go.Proofs.YtnkhfdnahnphdaaDoorW.PrintWords
open Go.RowKit
namespace Kd
theorem reps_one {α : Type} {R : α → List Value → Prop} {size : Nat} {ps : List α} {cs : List Value} (h : Reps R size ps cs) (hs0 : 0 < size) (hR : ∀ p c, R p c → ∀ u ∈ c, u.oneCell' = true) : ∀ u ∈ cs, u.oneCell' = true := by
  intro u hu
  obtain ⟨q, hq, rfl⟩ := List.mem_iff_getElem.1 hu
  have hql : q / size < ps.length := by
    rw [Nat.div_lt_iff_lt_mul hs0, ← h.1]
    exact hq
  refine hR _ _ (h.2 (q / size) _ (List.getElem?_eq_getElem hql)) _ ?_
  rw [List.mem_iff_getElem?]
  refine ⟨q % size, ?_⟩
  rw [List.getElem?_take, if_pos (Nat.mod_lt _ hs0), List.getElem?_drop, Nat.mul_comm, Nat.div_add_mod, List.getElem?_eq_getElem hq]
section
variable {α : Type} {n : Nat} {d : Kd α} {hs : 0 < d.sz} {w : World} {base : Nat} {ok : Nat → Prop} {xs : List α} {cs : List Value}
end
section
variable {α : Type} {n : Nat} {enc : α → Value} {h1 : ∀ x, (enc x).oneCell' = true} {hs : 0 < (scalar enc h1).sz} {w : World} {base : Nat} {ok : Nat → Prop} {xs : List α} {cs : List Value}
end
end Kd
end Go.Proofs.YtnkhfdnahnphdaaDoorW.PrintWords
end
section
namespace Go.Proofs.YtnkhfdnahnphdaaDoorW.PrintWords
open Go.RowKit
section
variable {P : Program}
theorem run_append_zeros (w : World) (base : Nat) (t ti ty e : TypeId) (i : TypeInfo) (z : Value) (size bytes : Nat) (ht : P.underlying t = some (.slice e)) {k : IntKind} (hti : P.underlying ti = some (.int k)) (hi : P.info? e = some i) (hz : i.zero = some z)
    (hsize : i.size = size) (hby : i.bytes = bytes) (hzs : z.cells.size = size) (hsz : 0 < size) (hb0 : 0 < bytes)
    (v : Value) (n : Nat) (xs : List Value) (hown : w.ownsRow base e size v n xs) (kx : IntKind) (m : Nat) (h1 : ∀ u ∈ (Builtin.zeroCells z.cells m).toList, u.oneCell' = true)
    (hbytes : (n + m) * bytes ≤ 140737488355328) (hbase : base ≤ w.heap.size) :
    ∃ v' w', (Builtin.append_ #[t, ti] ty #[v, .int kx m]).run P w = .ok v' w' ∧ w'.ownsRow base e size v' (n + m) (xs ++ (Builtin.zeroCells z.cells m).toList) ∧ w.grownBy w' v.ownBlock ∧
      (v'.ownBlock = v.ownBlock ∨ v'.ownBlock = some w.heap.size) := by
  subst hsize
  subst hby
  have hle : n + m ≤ 140737488355328 := Nat.le_trans (Nat.le_mul_of_pos_right _ hb0) hbytes
  have h63 : n + m ≤ maxLen := by simp only [maxLen]; omega
  have hw : IntKind.i64.wrap (m : Int) = m := by rw [IntKind.wrap_i64]; omega
  have hw0 : IntKind.i64.wrap 0 = 0 := by rw [IntKind.wrap_i64]; rfl
  have hneg : ¬ ((m : Int) < 0) := by omega
  have hmb : m * i.bytes ≤ 140737488355328 := Nat.le_trans (Nat.mul_le_mul_right _ (Nat.le_add_left m n)) hbytes
  have hbig : ¬ (281474976710656 < (m : Int) * (i.bytes : Int)) := by
    rw [← Int.natCast_mul]
    omega
  have hsn : i.size ≠ 0 := by omega
  obtain ⟨news, hnews⟩ : ∃ news, news = (Builtin.zeroCells z.cells m).toList := ⟨_, rfl⟩
  rw [← hnews] at h1 ⊢
  have hl : news.length = m * i.size := by rw [hnews, Array.length_toList, size_zeroCells, hzs]
  have hna : Builtin.zeroCells z.cells m = news.toArray := by rw [hnews]
  have hlen : (xs ++ news).length = (n + m) * i.size := by rw [List.length_append, hown.1, hl, Nat.add_mul]
  have hnil : m = 0 → news = [] := fun h => List.eq_nil_of_length_eq_zero (by rw [hl, h, Nat.zero_mul])
  have grown : ∀ (old : Nat), old < n + m → ∀ (row : Option Nat),
      (w.drew.alloc (.cells (xs.toArray ++ news.toArray ++ Builtin.zeroCells z.cells (grownCap w (n + m) old e - (n + m))) e)).ownsRow base e i.size
        (.slice (some ⟨w.heap.size, 0, none⟩) (n + m) (grownCap w (n + m) old e)) (n + m) (xs ++ news) ∧
      w.grownBy (w.drew.alloc (.cells (xs.toArray ++ news.toArray ++ Builtin.zeroCells z.cells (grownCap w (n + m) old e - (n + m))) e)) row := by
    intro old ho row
    have hge := grownCap_ge w (n + m) old e
    have hcm : grownCap w (n + m) old e ≤ maxLen := grownCap_le_maxLen w (n + m) old e h63
    refine ⟨⟨hlen, .inr ⟨w.heap.size, _, _, rfl, hbase, heap_alloc_new w.drew _, hge, hcm, ?_, ?_⟩⟩, ⟨rfl, rfl, rfl, by simp, fun k hk _ => heap_alloc_old w.drew _ hk⟩⟩
    · simp only [Array.size_append, List.size_toArray, size_zeroCells, hzs, hown.1, hl, ← Nat.add_mul]
      congr 1
      omega
    · simp only [Array.toList_append, List.append_assoc]
      rw [← List.append_assoc, ← hlen]
      exact List.take_left
  have runs : ∀ (A : Option Addr) (cap : Nat), cap < n + m → (Builtin.firstCells i.size n (.slice A n cap)).run P w.drew = .ok xs.toArray w.drew → (Builtin.append_ #[t, ti] ty #[.slice A n cap, .int kx m]).run P w =
      .ok (.slice (some ⟨w.heap.size, 0, none⟩) (n + m) (grownCap w (n + m) cap e)) (w.drew.alloc (.cells (xs.toArray ++ news.toArray ++ Builtin.zeroCells z.cells (grownCap w (n + m) cap e - (n + m))) e)) := by
    intro A cap hcap hfo
    have hn : ¬ (n + m ≤ cap) := by omega
    have h63' : ¬ (9223372036854775807 < ((n : Int) + (m : Int))) := by omega
    have hfit := growslice_fits hcap hbytes
    have h48' : ¬ (281474976710656 < Builtin.nextslicecap (n + m) cap * i.bytes) := by omega
    by_cases hm : m = 0
    · have hnl := hnil hm
      subst hm
      rw [hnl]
      simp only [Nat.add_zero] at hn h63' h48' ⊢
      have h63'' : ¬ (9223372036854775807 < (n : Int)) := by omega
      simp [Builtin.append_, run_underlying ht, run_underlying hti, sizeOf, typeInfo, zeroValue, hi, hz, asInt, asIntOf, hw0, hn, h63'', h48', Question.forced, hfo, newRow, grownCap]
    · have hmz : ¬ (m * i.size = 0) := Nat.mul_ne_zero hm hsn
      simp [Builtin.append_, run_underlying ht, run_underlying hti, sizeOf, typeInfo, zeroValue, hi, hz, asInt, asIntOf, hw, hneg, hbig, hn, h63', h48', Question.forced, hfo, newRow, grownCap, hmz, hna]
      congr 2
      apply Array.ext'
      simp [List.append_assoc]
  rcases hown.2 with ⟨rfl, rfl⟩ | ⟨g, cap, cur, rfl, hbg, hg, hnc, hcm, hcs, htake⟩
  · have hx : xs = [] := List.eq_nil_of_length_eq_zero (by simpa using hown.1)
    subst hx
    by_cases hm : m = 0
    · have hnl := hnil hm
      subst hm
      rw [hnl]
      refine ⟨.slice none 0 0, w, ?_, World.ownsRow_nil w base e i.size, ⟨rfl, rfl, rfl, Nat.le_refl _, fun _ _ _ => rfl⟩, Or.inl rfl⟩
      simp [Builtin.append_, run_underlying ht, run_underlying hti, sizeOf, typeInfo, hi, asInt, asIntOf, hw0]
    · have hgr := grown 0 (by omega) (Value.ownBlock (.slice none 0 0))
      exact ⟨_, _, runs none 0 (by omega) (by simp [Builtin.firstCells]), hgr.1, hgr.2, Or.inr rfl⟩
  · by_cases hroom : n + m ≤ cap
    · have hfit : n * i.size + news.length ≤ cur.size := by rw [hl, hcs, ← Nat.add_mul]; exact Nat.mul_le_mul_right _ hroom
      obtain ⟨cur', h3, h4, h5⟩ := setCells_row news (n * i.size) w cur hg hfit
      obtain ⟨s1, s2, s3, s4⟩ := setCells_same g news (n * i.size) w
      have hst := run_storeCells_cells (P := P) g (n * i.size) news 0 w (fun j hj => by rw [cell_of_row w g _ cur e (0, 0) hg]; simp; omega) (fun j _ => blk_frozen hg _) h1
      simp only [Nat.add_zero] at hst
      refine ⟨.slice (some ⟨g, 0, none⟩) (n + m) cap, w.setCells g (n * i.size) news, ?_, ⟨hlen, .inr ⟨g, cap, cur', rfl, hbg, h3, hroom, hcm, by rw [h4, hcs], ?_⟩⟩, ⟨s1, s2, s3, by rw [s4]; exact Nat.le_refl _, fun k _ hk => setCells_far news _ k (fun e => hk (by simp [Value.ownBlock, e]))⟩, Or.inl rfl⟩
      · by_cases hm : m = 0
        · have hnl := hnil hm
          subst hm
          rw [hnl] at hst ⊢
          simp [Builtin.append_, run_underlying ht, run_underlying hti, sizeOf, typeInfo, hi, asInt, asIntOf, hw0, hnc, add_plain, hst]
        · have hmz : ¬ (m * i.size = 0) := Nat.mul_ne_zero hm hsn
          simp [Builtin.append_, run_underlying ht, run_underlying hti, sizeOf, typeInfo, zeroValue, hi, hz, asInt, asIntOf, hw, hneg, hbig, hroom, hmz, hna, add_plain, hst]
      · rw [h5]
        have h6 : cur.toList.take (n * i.size) = xs := htake
        rw [h6, ← hlen]
        exact List.take_left
    · have holds : ∀ j u, xs[j]? = some u → w.cell? ((⟨g, 0, none⟩ : Addr).add j) = some u := hown.cells (g := g) rfl
      have hgr := grown cap (by omega) (Value.ownBlock (.slice (some ⟨g, 0, none⟩) n cap))
      exact ⟨_, _, runs (some ⟨g, 0, none⟩) cap (by omega) (run_firstCells_some (P := P) w.drew i.size n _ n cap xs hown.1 (by simpa using holds)), hgr.1, hgr.2, Or.inr rfl⟩
end
namespace Kd
/-- What zeros are made of. -/
theorem reps_zeros {α : Type} {R : α → List Value → Prop} {z : Value} {size : Nat} {z0 : α} (hz : z.cells.size = size) (hs : 0 < size) (h0 : R z0 z.cells.toList) (m : Nat) : Reps R size (List.replicate m z0) (Builtin.zeroCells z.cells m).toList := by
  have h := reps_made hz hs h0 m
  rw [show Builtin.zeroCells z.cells m = madeCells z.cells (m * size) by unfold Builtin.zeroCells madeCells; rw [hz]]
  exact h
section
variable {P : Program} {ops : Array Oper} {rest : List Oper} {o : Oper} {a : Act} {Q : Exit → Act → World → Prop} {Kc : Act → World → Prop} {α : Type}
end
section
variable {α : Type} {d : Kd α} {e : Nat} {w : World} {base : Nat} {ok : Nat → Prop} {v : Value} {xs : List α}
end
section
variable {P : Program} {ops : Array Oper} {rest : List Oper} {o : Oper} {a : Act} {Q : Exit → Act → World → Prop} {Kc : Act → World → Prop} {α : Type}
end
end Kd
end Go.Proofs.YtnkhfdnahnphdaaDoorW.PrintWords
end
section
namespace Go.Proofs.YtnkhfdnahnphdaaDoorW.PrintWords
open Go.RowKit
namespace Kd
/-- What a kind reads lies in the blocks: nothing else of the world is looked at. -/
structure Heap {α : Type} (d : Kd α) : Prop where
  K : ∀ {w w1 : World} {x : α} {cs : List Value}, (∀ k, k < w.heap.size → w1.heap[k]? = w.heap[k]?) → d.K w x cs → d.K w1 x cs
theorem cell_heap {w w1 : World} (hb : ∀ k, k < w.heap.size → w1.heap[k]? = w.heap[k]?) {a : Addr} {v : Value} (h : w.cell? a = some v) : w1.cell? a = some v := by
  have := hb a.block (World.block_lt_of_cell? w a h)
  simpa [World.cell?, this] using h
theorem Heap.C {α : Type} {d : Kd α} (hd : Heap d) {w w1 : World} {A : Option Addr} {n : Nat} {xs : List α} (hb : ∀ k, k < w.heap.size → w1.heap[k]? = w.heap[k]?) (h : d.C w A n xs) : d.C w1 A n xs :=
  ⟨h.1, h.2.1, fun hn => by
    obtain ⟨ad, e, hc⟩ := h.2.2 hn
    refine ⟨ad, e, fun j p hj => ?_⟩
    obtain ⟨c, hs, hr, hcell⟩ := hc j p hj
    exact ⟨c, hs, hd.K hb hr, fun i u hu => cell_heap hb (hcell i u hu)⟩⟩
section
variable {α : Type} {d : Kd α} {e base g n c : Nat} {ok : Nat → Prop} {w w0 W : World} {A : Option Addr} {xs : List α}
end
end Kd
end Go.Proofs.YtnkhfdnahnphdaaDoorW.PrintWords
end
section
namespace Go.Proofs.YtnkhfdnahnphdaaDoorW.PrintWords
open Go.RowKit
def Kept (w W : World) (S : Nat → Prop) : Prop := w.heap.size ≤ W.heap.size ∧ ∀ i, i < w.heap.size → ¬ S i → W.heap[i]? = w.heap[i]?
section
variable {w W W2 : World} {S S2 S' : Nat → Prop}
theorem Kept.refl (w : World) (S : Nat → Prop) : Kept w w S := ⟨Nat.le_refl _, fun _ _ _ => rfl⟩
theorem Kept.of_below (h : Below w.heap.size w W) (S : Nat → Prop) : Kept w W S := ⟨h.size, fun i hi _ => h.block i hi⟩
theorem Kept.mono (h : Kept w W S) (hs : ∀ k, S k → S' k) : Kept w W S' := ⟨h.1, fun i hi hn => h.2 i hi (fun hk => hn (hs i hk))⟩
theorem Kept.then_ (h : Kept w W S) (k : Kept W W2 S2) (hs : ∀ k, S2 k → S k ∨ w.heap.size ≤ k) : Kept w W2 S :=
  ⟨Nat.le_trans h.1 k.1, fun i hi hn => (k.2 i (Nat.lt_of_lt_of_le hi h.1) (fun h2 => (hs i h2).elim hn (fun h3 => by omega))).trans (h.2 i hi hn)⟩
theorem Kept.below (h : Kept w W S) (hb : Below W.heap.size W W2) : Kept w W2 S := h.then_ (Kept.of_below hb (fun _ => False)) (fun _ hk => hk.elim)
theorem Kept.alloc (h : Kept w W S) (o : Obj) : Kept w (W.alloc o) S := h.below (below_alloc (Below.refl _ _) o)
theorem Kept.drew (h : Kept w W S) : Kept w W.drew S := h
theorem Kept.drewN (h : Kept w W S) (m : Nat) : Kept w (W.drewN m) S := h
theorem Kept.setCell (h : Kept w W S) {p : Addr} (hp : S p.block ∨ w.heap.size ≤ p.block) (u : Value) : Kept w (W.setCell p u) S :=
  h.then_ (S2 := fun k => k = p.block) ⟨by simp [World.setCell], fun i _ hn => Below.heap_setCell W p u i hn⟩ (fun k hk => by rw [hk]; exact hp)
/-- Beside a state: what was written is new since. -/
theorem Kept.keep {g : Nat} (h : KeepBut w W g none) (k : Kept W W2 S2) (hs : ∀ k, S2 k → w.heap.size ≤ k) : KeepBut w W2 g none :=
  ⟨Nat.le_trans h.1 k.1, fun i hi hg hr => (k.2 i (Nat.lt_of_lt_of_le hi h.1) (fun h2 => by have := hs i h2; omega)).trans (h.2 i hi hg hr)⟩
end
namespace Kd
section
variable {α : Type} {d : Kd α} {e base n c : Nat} {ok oki S S2 : Nat → Prop} {w w0 W W1 W2 : World} {v : Value} {A : Option Addr} {xs : List α} {i : Int} {cs : List Value}
end
end Kd
end Go.Proofs.YtnkhfdnahnphdaaDoorW.PrintWords
end
section
namespace Go.Proofs.YtnkhfdnahnphdaaDoorW.PrintWords
open Go.RowKit
/-- P holds in W and in every world that has W's blocks of ok. -/
def Foot (P : World → Prop) (W : World) (ok : Nat → Prop) : Prop := ∀ W' : World, (∀ k, ok k → k < W.heap.size → W'.heap[k]? = W.heap[k]?) → P W'
theorem heap_lt {W W1 : World} {k : Nat} (h : W1.heap[k]? = W.heap[k]?) (hlt : k < W.heap.size) : k < W1.heap.size := by
  rw [Array.getElem?_eq_getElem hlt] at h
  exact (Array.getElem?_eq_some_iff.1 h).1
namespace Foot
variable {P Q : World → Prop} {W W1 : World} {ok ok' : Nat → Prop}
theorem mono (h : Foot P W ok) (hok : ∀ k, ok k → ok' k) : Foot P W ok' := fun W' hW => h W' (fun k hk hlt => hW k (hok k hk) hlt)
theorem bound (h : Foot P W ok) : Foot P W (fun k => ok k ∧ k < W.heap.size) := fun W' hW => h W' (fun k hk hlt => hW k ⟨hk, hlt⟩ hlt)
theorem step (h : Foot P W ok) (hm : ∀ k, ok k → k < W.heap.size → W1.heap[k]? = W.heap[k]?) : Foot P W1 ok := fun W' hW => h W' (fun k hk hlt => (hW k hk (heap_lt (hm k hk hlt) hlt)).trans (hm k hk hlt))
/-- Moved, and still elder than what is new since W. -/
theorem old (h : Foot P W ok) (hb : Below W.heap.size W W1) : Foot P W1 (fun k => ok k ∧ k < W.heap.size) := (h.bound).step (fun k _ hlt => hb.block k hlt)
end Foot
namespace Kd
/-- A row that is only read: what it leads to lies in ok. -/
def F {α : Type} (d : Kd α) (W : World) (ok : Nat → Prop) (A : Option Addr) (n : Nat) (xs : List α) : Prop := Foot (fun W => d.C W A n xs) W ok
/-- An element's cells: what they lead to lies in ok. -/
def FK {α : Type} (d : Kd α) (W : World) (ok : Nat → Prop) (x : α) (c : List Value) : Prop := Foot (fun W => d.K W x c) W ok
section
variable {α β : Type} {d : Kd α} {e base n n' cc g N : Nat} {ok ok' okp S : Nat → Prop} {w w0 w1 W W1 : World} {A A' : Option Addr} {u v v1 : Value} {xs : List α} {xs' : List β} {d' : Kd β} {x : α} {c : List Value}
theorem F_nil (d : Kd α) (W : World) (ok : Nat → Prop) : F d W ok none ([] : List α).length [] := fun W' _ => C_nil d W'
theorem FK_of_M (h : d.M W base ok x c) : FK d W ok x c := fun _ hW => d.K_of_M (M_step h hW)
end
end Kd
end Go.Proofs.YtnkhfdnahnphdaaDoorW.PrintWords
end
section
namespace Go.Proofs.YtnkhfdnahnphdaaDoorW.PrintWords
open Go.RowKit
namespace Kd
/-- The cells one behind the other, element by element. -/
def chunks (sz : Nat) (n : Nat) (inner : List Value) : List (List Value) := (List.range n).map fun j => (inner.drop (j * sz)).take sz
theorem chunks_length (sz n : Nat) (inner : List Value) : (chunks sz n inner).length = n := by simp [chunks]
theorem chunks_at {sz n : Nat} {inner : List Value} {j : Nat} (hj : j < n) : (chunks sz n inner)[j]? = some ((inner.drop (j * sz)).take sz) := by simp [chunks, hj]
theorem chunks_get {sz n : Nat} {inner : List Value} {j : Nat} {c : List Value} (h : (chunks sz n inner)[j]? = some c) : c = (inner.drop (j * sz)).take sz := by
  have hj : j < n := by have := (List.getElem?_eq_some_iff.1 h).1; rwa [chunks_length] at this
  rw [chunks_at hj] at h
  injection h with h
  exact h.symm
theorem reps_raw {α : Type} {Rr : α → List Value → Prop} {sz : Nat} {xs : List α} {inner : List Value} (h : Reps Rr sz xs inner) (hR : ∀ x c, Rr x c → c.length = sz ∧ ∀ u ∈ c, u.oneCell' = true) : Reps (fun x cs => cs = x ∧ cs.length = sz ∧ ∀ u ∈ cs, u.oneCell' = true) sz (chunks sz xs.length inner) inner := by
  refine ⟨by rw [chunks_length]; exact h.1, fun j p hj => ?_⟩
  have hjl : j < xs.length := by have := (List.getElem?_eq_some_iff.1 hj).1; rwa [chunks_length] at this
  have hp := chunks_get hj
  exact ⟨hp.symm, hR _ _ (h.2 j _ (List.getElem?_eq_getElem hjl))⟩
section
variable {α : Type} {d : Kd α} {e base n cc g : Nat} {ok ok' okp S : Nat → Prop} {w w1 W W1 : World} {A : Option Addr} {u v v1 : Value} {xs : List α} {x : α} {c : List Value}
/-- A row of elements (type e) of the call's own; what the elements lead to is only read, and is not this row. -/
def N {α : Type} (d : Kd α) (e : Nat) (w : World) (base : Nat) (ok : Nat → Prop) (v : Value) (xs : List α) : Prop :=
  (∀ k, v.ownBlock = some k → ok k) ∧ ∃ rows : List (List Value), rows.length = xs.length ∧ (raw d.sz).R e w base (fun k => some k = v.ownBlock) v rows ∧ ∀ (j : Nat) (x : α) (c : List Value), xs[j]? = some x → rows[j]? = some c → FK d w (fun k => ok k ∧ some k ≠ v.ownBlock) x c
theorem R_N (h : d.R e w base ok v xs) : N d e w base ok v xs := by
  obtain ⟨h0, inner, ho, hr⟩ := h
  refine ⟨h0, chunks d.sz xs.length inner, chunks_length _ _ _, ⟨fun k hk => hk.symm, inner, by rw [chunks_length]; exact ho, reps_raw hr (fun x c hp => ⟨d.K_len (d.K_of_M hp), d.K_one (d.K_of_M hp)⟩)⟩, fun j x c hx hc => ?_⟩
  rw [chunks_get hc]
  exact FK_of_M (hr.2 j x hx)
theorem N_nil (d : Kd α) (e : Nat) (w : World) (base : Nat) (ok : Nat → Prop) : N d e w base ok (.slice none 0 0) [] := R_N (R_nil _ _ _ _ _)
end
end Kd
end Go.Proofs.YtnkhfdnahnphdaaDoorW.PrintWords
end
section
namespace Go.Proofs.YtnkhfdnahnphdaaDoorW.PrintMore
open Go.RowKit Go.Proofs.YtnkhfdnahnphdaaDoorW.PrintWords
namespace Kd
open Go.Proofs.YtnkhfdnahnphdaaDoorW.PrintWords.Kd
end Kd
namespace Kd
open Go.Proofs.YtnkhfdnahnphdaaDoorW.PrintWords.Kd
section
variable {α : Type} {d : Kd α} {e base g N : Nat} {ok : Nat → Prop} {W w1 : World} {u v : Value} {xs : List α}
end
end Kd
/-- 'max' and 'min' of two whole numbers. -/
theorem max2_int (k k' : IntKind) (x y : Int) : Builtin.max2 (.int k x) (.int k' y) = pure (.int k (if x < y then y else x)) := by simp only [Builtin.max2, gt_iff_lt]
theorem min2_int (k k' : IntKind) (x y : Int) : Builtin.min2 (.int k x) (.int k' y) = pure (.int k (if y < x then y else x)) := by simp only [Builtin.min2]
theorem max_two (ats : Array TypeId) (ty : TypeId) (a b : Value) : Builtin.max_ ats ty #[a, b] = (Builtin.max2 a b >>= fun s => pure s) := by simp only [Builtin.max_, List.foldlM_cons, List.foldlM_nil]
theorem min_two (ats : Array TypeId) (ty : TypeId) (a b : Value) : Builtin.min_ ats ty #[a, b] = (Builtin.min2 a b >>= fun s => pure s) := by simp only [Builtin.min_, List.foldlM_cons, List.foldlM_nil]
theorem max_three (ats : Array TypeId) (ty : TypeId) (a b c : Value) : Builtin.max_ ats ty #[a, b, c] = (Builtin.max2 a b >>= fun s => Builtin.max2 s c >>= fun s => pure s) := by simp only [Builtin.max_, List.foldlM_cons, List.foldlM_nil]
theorem min_three (ats : Array TypeId) (ty : TypeId) (a b c : Value) : Builtin.min_ ats ty #[a, b, c] = (Builtin.min2 a b >>= fun s => Builtin.min2 s c >>= fun s => pure s) := by simp only [Builtin.min_, List.foldlM_cons, List.foldlM_nil]
theorem max_four (ats : Array TypeId) (ty : TypeId) (a b c d : Value) : Builtin.max_ ats ty #[a, b, c, d] = (Builtin.max2 a b >>= fun s => Builtin.max2 s c >>= fun s => Builtin.max2 s d >>= fun s => pure s) := by simp only [Builtin.max_, List.foldlM_cons, List.foldlM_nil]
theorem min_four (ats : Array TypeId) (ty : TypeId) (a b c d : Value) : Builtin.min_ ats ty #[a, b, c, d] = (Builtin.min2 a b >>= fun s => Builtin.min2 s c >>= fun s => Builtin.min2 s d >>= fun s => pure s) := by simp only [Builtin.min_, List.foldlM_cons, List.foldlM_nil]
end Go.Proofs.YtnkhfdnahnphdaaDoorW.PrintMore
namespace Go.Proofs.YtnkhfdnahnphdaaDoorW.PrintWords
open Go.RowKit
section
variable {P : Program} {ops : Array Oper} {rest : List Oper} {o : Oper} {a : Act} {Q : Exit → Act → World → Prop} {W : World}
/-- The operation is a builtin over these places. -/
theorem gate_builtin {b : Builtin} {xs : Array Operand} {ts : Array TypeId} (_ho : o.op = .call { callee := .builtin b, args := xs, argTypes := ts }) (h : wpList P ops Q (o :: rest) a W) : wpList P ops Q (o :: rest) a W := h
end
/-- The greater of two whole numbers, as Go's max tells it. -/
def mx (a b : Int) : Int := if a < b then b else a
/-- The smaller of two whole numbers, as Go's min tells it. -/
def mn (a b : Int) : Int := if b < a then b else a
namespace Kd
section
variable {α : Type} {d : Kd α} {e base : Nat} {ok : Nat → Prop} {W w1 : World} {v : Value} {xs : List α}
end
section
variable {α : Type} {d : Kd α} {e base g n cap : Nat} {ok oki okp : Nat → Prop} {W : World} {xs : List α} {i : Int} {c : List Value}
end
section
variable {α : Type} {d : Kd α} {e base b b' g N : Nat} {ok ok1 : Nat → Prop} {W W2 w1 : World} {u v : Value} {xs ys : List α} {S : Nat → Prop}
end
end Kd
end Go.Proofs.YtnkhfdnahnphdaaDoorW.PrintWords
namespace Go.Proofs.YtnkhfdnahnphdaaDoorW.PrintWords
open Go.RowKit
namespace Kd
/-- A row that is only read, told by its value: its form, its length, what it leads to (in ok). e and base say nothing; they make it as the others are. -/
def V {α : Type} (d : Kd α) (_e : Nat) (W : World) (_base : Nat) (ok : Nat → Prop) (v : Value) (xs : List α) : Prop := ∃ A c, v = .slice A xs.length c ∧ xs.length ≤ c ∧ F d W ok A xs.length xs
section
variable {α β : Type} {d : Kd α} {e base base' n m c g N' lo hi : Nat} {ok ok' S : Nat → Prop} {w W w1 : World} {A : Option Addr} {ad : Addr} {u v v1 : Value} {xs : List α}
theorem V_nil (d : Kd α) (e : Nat) (W : World) (base : Nat) (ok : Nat → Prop) : V d e W base ok (.slice none 0 0) [] := ⟨none, 0, rfl, Nat.le_refl _, F_nil d W ok⟩
end
end Kd
end Go.Proofs.YtnkhfdnahnphdaaDoorW.PrintWords
end
section
namespace Go.Proofs.YtnkhfdnahnphdaaDoorW.PrintWords
/-- One cell an element. -/
theorem Reps.one {α : Type} {R : α → List Value → Prop} {ps : List α} {cs : List Value} {p : α} {v : Value} (hp : R p [v]) (h : Reps R 1 ps cs) : Reps R 1 (p :: ps) (v :: cs) := by
  refine ⟨by simp [h.1], fun j q hq => ?_⟩
  cases j with
  | zero =>
    simp only [List.getElem?_cons_zero, Option.some.injEq] at hq
    subst hq
    simpa using hp
  | succ j =>
    simp only [List.getElem?_cons_succ] at hq
    have h1 := h.2 j q hq
    simpa [Nat.mul_one] using h1
/-- More cells an element: told apart by the cells' list. -/
theorem Reps.front {α : Type} {R : α → List Value → Prop} {size : Nat} {ps : List α} {cs c all : List Value} {p : α} (hp : R p c) (hc : c.length = size) (h : Reps R size ps cs) (ha : c ++ cs = all) : Reps R size (p :: ps) all := by
  subst ha
  refine ⟨by rw [List.length_append, hc, h.1, List.length_cons, Nat.succ_mul, Nat.add_comm], fun j q hq => ?_⟩
  cases j with
  | zero =>
    simp only [List.getElem?_cons_zero, Option.some.injEq] at hq
    subst hq
    rw [Nat.zero_mul, List.drop_zero, List.take_append_of_le_length (by omega), List.take_of_length_le (by omega)]
    exact hp
  | succ j =>
    simp only [List.getElem?_cons_succ] at hq
    have h1 := h.2 j q hq
    rw [Nat.succ_mul, List.drop_append, List.drop_of_length_le (by rw [hc]; exact Nat.le_add_left _ _), List.nil_append, hc, Nat.add_sub_cancel]
    exact h1
theorem Reps.c2 {α : Type} {R : α → List Value → Prop} {ps : List α} {cs : List Value} {p : α} {va vb : Value} (hp : R p [va, vb]) (h : Reps R 2 ps cs) : Reps R 2 (p :: ps) (va :: vb :: cs) := Reps.front hp rfl h rfl
theorem Reps.c3 {α : Type} {R : α → List Value → Prop} {ps : List α} {cs : List Value} {p : α} {va vb vc : Value} (hp : R p [va, vb, vc]) (h : Reps R 3 ps cs) : Reps R 3 (p :: ps) (va :: vb :: vc :: cs) := Reps.front hp rfl h rfl
theorem Reps.c4 {α : Type} {R : α → List Value → Prop} {ps : List α} {cs : List Value} {p : α} {va vb vc vd : Value} (hp : R p [va, vb, vc, vd]) (h : Reps R 4 ps cs) : Reps R 4 (p :: ps) (va :: vb :: vc :: vd :: cs) := Reps.front hp rfl h rfl
theorem Reps.c5 {α : Type} {R : α → List Value → Prop} {ps : List α} {cs : List Value} {p : α} {va vb vc vd ve : Value} (hp : R p [va, vb, vc, vd, ve]) (h : Reps R 5 ps cs) : Reps R 5 (p :: ps) (va :: vb :: vc :: vd :: ve :: cs) := Reps.front hp rfl h rfl
theorem Reps.c6 {α : Type} {R : α → List Value → Prop} {ps : List α} {cs : List Value} {p : α} {va vb vc vd ve vf : Value} (hp : R p [va, vb, vc, vd, ve, vf]) (h : Reps R 6 ps cs) : Reps R 6 (p :: ps) (va :: vb :: vc :: vd :: ve :: vf :: cs) := Reps.front hp rfl h rfl
theorem Reps.c7 {α : Type} {R : α → List Value → Prop} {ps : List α} {cs : List Value} {p : α} {va vb vc vd ve vf vg : Value} (hp : R p [va, vb, vc, vd, ve, vf, vg]) (h : Reps R 7 ps cs) : Reps R 7 (p :: ps) (va :: vb :: vc :: vd :: ve :: vf :: vg :: cs) := Reps.front hp rfl h rfl
theorem Reps.c8 {α : Type} {R : α → List Value → Prop} {ps : List α} {cs : List Value} {p : α} {va vb vc vd ve vf vg vh : Value} (hp : R p [va, vb, vc, vd, ve, vf, vg, vh]) (h : Reps R 8 ps cs) : Reps R 8 (p :: ps) (va :: vb :: vc :: vd :: ve :: vf :: vg :: vh :: cs) := Reps.front hp rfl h rfl
theorem Reps.c9 {α : Type} {R : α → List Value → Prop} {ps : List α} {cs : List Value} {p : α} {va vb vc vd ve vf vg vh vi : Value} (hp : R p [va, vb, vc, vd, ve, vf, vg, vh, vi]) (h : Reps R 9 ps cs) : Reps R 9 (p :: ps) (va :: vb :: vc :: vd :: ve :: vf :: vg :: vh :: vi :: cs) := Reps.front hp rfl h rfl
end Go.Proofs.YtnkhfdnahnphdaaDoorW.PrintWords
end
section
namespace Go.Proofs.YtnkhfdnahnphdaaDoor
open Go.RowKit Go.Rd Go.Proofs.YtnkhfdnahnphdaaDoorW.PrintWords Go.Proofs.YtnkhfdnahnphdaaDoorW.PrintLast Go.Proofs.YtnkhfdnahnphdaaDoorW.PrintMore
section
variable {α : Type} {d : Kd α} {e : Nat} {w w1 : World} {base : Nat} {ok : Nat → Prop} {v : Value} {xs : List α}
end
section
variable {P : Program} {ops : Array Oper} {rest : List Oper} {o : Oper} {a : Act} {Q : Exit → Act → World → Prop} {W : World}
end
/-- What is read at an index of a row of plain values. -/
theorem C_cell {α : Type} {enc : α → Value} {h1 : ∀ x, (enc x).oneCell' = true} {w : World} {A : Option Addr} {n : Nat} {xs : List α} (h : (Kd.scalar enc h1).C w A n xs) (k : Nat) (hk : k < xs.length) : ∃ ad, A = some ad ∧ w.cell? (ad.add k) = some (enc xs[k]) := by
  obtain ⟨ad, e, hc⟩ := h.2.2 (by have := h.1; omega)
  obtain ⟨c, hs, hr, hcell⟩ := hc k _ (List.getElem?_eq_getElem hk)
  refine ⟨ad, e, ?_⟩
  have hr' : c = [enc xs[k]] := hr
  subst hr'
  have := hcell 0 _ rfl
  simpa [Kd.scalar] using this
/-- Blocks whose type is not in T stay as they are. -/
def KeepT (T : TypeId → Prop) (w w' : World) : Prop := ∀ (k : Nat) (c : Array Value) (t : TypeId) (fr : Nat × Nat), w.heap[k]? = some (.cells c t fr) → ¬ T t → w'.heap[k]? = some (.cells c t fr)
section
variable {T : TypeId → Prop} {a w w1 : World}
theorem KeepT.refl (T : TypeId → Prop) (w : World) : KeepT T w w := fun _ _ _ _ h _ => h
theorem KeepT.trans (h : KeepT T a w) (h1 : KeepT T w w1) : KeepT T a w1 := fun k c t fr hk ht => h1 k c t fr (h k c t fr hk ht) ht
theorem KeepT.of_below (h : Below w.heap.size w w1) : KeepT T w w1 := fun k _ _ _ hk _ => (h.block k (lt_of_heap hk)).trans hk
theorem KeepT.below (h : KeepT T a w) (h1 : Below w.heap.size w w1) : KeepT T a w1 := h.trans (KeepT.of_below h1)
theorem KeepT.grown (h : KeepT T a w) {row : Option Nat} (hg : w.grownBy w1 row) (hr : ∀ k, row = some k → ∃ c t fr, w.heap[k]? = some (.cells c t fr) ∧ T t) : KeepT T a w1 :=
  h.trans fun k c t fr hk ht => (hg.block k (lt_of_heap hk) (fun e => by
    obtain ⟨c', t', fr', hk', ht'⟩ := hr k e.symm
    rw [hk] at hk'
    injection hk' with hk'
    injection hk' with _ e2
    exact ht (e2 ▸ ht'))).trans hk
theorem KeepT.set (h : KeepT T a w) {p : Addr} {c : Array Value} {t : TypeId} {fr : Nat × Nat} (hp : w.heap[p.block]? = some (.cells c t fr)) (ht : T t) (u : Value) : KeepT T a (w.setCell p u) :=
  h.trans fun k c' t' fr' hk ht' => (Below.heap_setCell _ _ _ _ (fun e => by
    subst e
    rw [hk] at hp
    injection hp with hp
    injection hp with _ e2
    exact ht' (e2 ▸ ht))).trans hk
theorem own_keepT {b s n : Nat} {t : TypeId} {u : Value} {ys : List Value} (ho : w.ownsRow b t s u n ys) (hk : KeepT T w w1) (ht : ¬ T t) : w1.ownsRow b t s u n ys :=
  own_move ho fun k hk' => by
    obtain ⟨c, hc⟩ := own_typed ho k hk'
    rw [hk k c t _ hc ht, hc]
end
end Go.Proofs.YtnkhfdnahnphdaaDoor
end
section
namespace Go.Proofs.YtnkhfdnahnphdaaDoor
open Go.ChangeShapes Go.WideShapes Go.ChangeAt Go.RowKit Go.Rd
open Go.Proofs.YtnkhfdnahnphdaaDoorW.PrintWords Go.Proofs.YtnkhfdnahnphdaaDoorW.PrintLast Go.Proofs.YtnkhfdnahnphdaaDoorW.PrintMore
/-- The types of a file's data, of a handle, of a byte. -/
abbrev tFD : TypeId := 92
abbrev tFH : TypeId := 94
abbrev tU8 : TypeId := 5
/-- A file's data. -/
structure FD where
  nm : ByteArray
  bs : List Int
  md : Value
  dir : Bool
  mode : Int
  mt : Int
  uid : Int
  gid : Int
/-- A handle. -/
structure FH where
  at_ : Int
  rdc : Int
  cl : Bool
  ro : Bool
  fd : Nat
def DataIs (w : World) (B fd : Nat) (dv : Value) (d : FD) : Prop :=
  w.heap[fd]? = some (.cells #[.string d.nm, dv, d.md, .bool d.dir, .int .u32 d.mode, .int .i64 d.mt, .int .i64 d.uid, .int .i64 d.gid] tFD (0, 0)) ∧
  w.ownsRow B tU8 1 dv d.bs.length (d.bs.map (Value.int .u8)) ∧ ∀ c ∈ d.bs, 0 ≤ c ∧ c ≤ 255
def HandleIs (w : World) (f : Nat) (h : FH) : Prop :=
  w.heap[f]? = some (.cells #[.int .i64 h.at_, .int .i64 h.rdc, .bool h.cl, .bool h.ro, .pointer (some ⟨h.fd, 0, none⟩)] tFH (0, 0))
section
variable {w w' : World} {B fd f : Nat} {dv : Value} {d : FD} {h : FH} {S : Nat → Prop}
theorem HandleIs.wrote (hh : HandleIs w f h) (hw : Wrote S w w') (h1 : ¬ S f) : HandleIs w' f h := (hw.block f (lt_of_heap hh) h1).trans hh
theorem DataIs.wrote (hd : DataIs w B fd dv d) (hw : Wrote S w w') (h1 : ¬ S fd) (h2 : ∀ k, dv.ownBlock = some k → ¬ S k) : DataIs w' B fd dv d :=
  ⟨(hw.block fd (lt_of_heap hd.1) h1).trans hd.1, own_move hd.2.1 (fun k hk => hw.block k (own_lt hd.2.1 k hk) (h2 k hk)), hd.2.2⟩
theorem HandleIs.below (hh : HandleIs w f h) (hb : Below w.heap.size w w') : HandleIs w' f h := hh.wrote (Wrote.of_below (S := fun _ => False) hb) id
theorem DataIs.below (hd : DataIs w B fd dv d) (hb : Below w.heap.size w w') : DataIs w' B fd dv d := hd.wrote (Wrote.of_below (S := fun _ => False) hb) id (fun _ _ => id)
theorem HandleIs.set (hh : HandleIs w f h) {p : Addr} (hp : f ≠ p.block) (u : Value) : HandleIs (w.setCell p u) f h := (Below.heap_setCell _ _ _ _ hp).trans hh
theorem wrote_new (hw : Wrote S w w') {p : Addr} (hp : w.heap.size ≤ p.block) (u : Value) : Wrote S w (w'.setCell p u) := hw.setCell (fun h => by omega) u
theorem wrote_grown {row : Option Nat} (hg : w.grownBy w' row) : Wrote (fun k => row = some k) w w' := ⟨hg.os, hg.tape, hg.output, hg.size, fun k hk hs => hg.block k hk (fun e => hs e.symm)⟩
theorem blk_ne {a b : Nat} {c c' : Array Value} {t t' : TypeId} {r r' : Nat × Nat} (h1 : w.heap[a]? = some (.cells c t r)) (h2 : w.heap[b]? = some (.cells c' t' r')) (ht : t ≠ t') : a ≠ b := by
  rintro rfl
  rw [h1] at h2
  injection h2 with h2
  injection h2 with _ h2
  exact ht h2
theorem fd_ne (hd : DataIs w B fd dv d) (hh : HandleIs w f h) : fd ≠ f := blk_ne hd.1 hh (by decide)
theorem row_fd (hd : DataIs w B fd dv d) (k : Nat) (hk : dv.ownBlock = some k) : k ≠ fd := by
  obtain ⟨c, hc⟩ := own_typed hd.2.1 k hk
  exact blk_ne hc hd.1 (by decide)
theorem row_fh (hd : DataIs w B fd dv d) (hh : HandleIs w f h) (k : Nat) (hk : dv.ownBlock = some k) : k ≠ f := by
  obtain ⟨c, hc⟩ := own_typed hd.2.1 k hk
  exact blk_ne hc hh (by decide)
theorem DataIs.slice (hd : DataIs w B fd dv d) : ∃ A c, dv = .slice A d.bs.length c := own_slice hd.2.1
end
theorem wrote_set (w : World) (f o : Nat) (u : Value) : Wrote (fun k => k = f) w (w.setCell ⟨f, o, none⟩ u) := (Wrote.refl (fun k => k = f) w).setCell (fun _ => rfl) u
theorem below3 (w : World) (o1 o2 o3 : Obj) : Below w.heap.size w (((w.alloc o1).alloc o2).alloc o3) :=
  (((Below.refl _ _).alloc (Nat.le_refl _) o1).alloc (by simp) o2).alloc (by simp; omega) o3
theorem third_new (w : World) (o1 o2 o3 : Obj) : (((w.alloc o1).alloc o2).alloc o3).heap[w.heap.size + 1 + 1]? = some o3 := by
  have := alloc_new ((w.alloc o1).alloc o2) o3
  simpa using this
theorem second_new (w : World) (o1 o2 o3 : Obj) : (((w.alloc o1).alloc o2).alloc o3).heap[w.heap.size + 1]? = some o2 := by
  have h := alloc_keeps (alloc_new (w.alloc o1) o2) o3
  simpa using h
/-- The six cells of an answer's block. -/
theorem cells6 {w : World} {b : Nat} {t : TypeId} {a0 a1 a2 a3 a4 a5 : Value} (h : w.heap[b]? = some (.cells #[a0, a1, a2, a3, a4, a5] t (0, 0))) :
    (w.cell? ⟨b, 0, none⟩ = some a0 ∧ w.cell? ⟨b, 1, none⟩ = some a1 ∧ w.cell? ⟨b, 2, none⟩ = some a2 ∧ w.cell? ⟨b, 3, none⟩ = some a3 ∧ w.cell? ⟨b, 4, none⟩ = some a4 ∧ w.cell? ⟨b, 5, none⟩ = some a5) ∧
    (w.frozen? ⟨b, 0, none⟩ = false ∧ w.frozen? ⟨b, 1, none⟩ = false ∧ w.frozen? ⟨b, 2, none⟩ = false ∧ w.frozen? ⟨b, 3, none⟩ = false ∧ w.frozen? ⟨b, 4, none⟩ = false ∧ w.frozen? ⟨b, 5, none⟩ = false) :=
  ⟨⟨(cell_of h 0).trans rfl, (cell_of h 1).trans rfl, (cell_of h 2).trans rfl, (cell_of h 3).trans rfl, (cell_of h 4).trans rfl, (cell_of h 5).trans rfl⟩, free_of h 0, free_of h 1, free_of h 2, free_of h 3, free_of h 4, free_of h 5⟩
/-- From w to wx the file's data and the handle were written, and nothing else that was there. -/
def Laid (w wx : World) (f B fd : Nat) (h : FH) (dv : Value) (d : FD) : Prop :=
  ∃ dv1, HandleIs wx f h ∧ DataIs wx B fd dv1 d ∧ Wrote (fun k => k = f ∨ k = fd ∨ dv.ownBlock = some k) w wx ∧ (dv1.ownBlock = dv.ownBlock ∨ ∃ k, dv1.ownBlock = some k ∧ w.heap.size ≤ k)
theorem Laid.refl {w : World} {f B fd : Nat} {h : FH} {dv : Value} {d : FD} (hH : HandleIs w f h) (hD : DataIs w B fd dv d) : Laid w w f B fd h dv d := ⟨dv, hH, hD, Wrote.refl _ _, .inl rfl⟩
theorem Laid.of_drew {w wx : World} {f B fd : Nat} {h : FH} {dv : Value} {d : FD} (hl : Laid w.drew wx f B fd h dv d) : Laid w wx f B fd h dv d := by
  obtain ⟨dv1, h1, h2, h3, h4⟩ := hl
  exact ⟨dv1, h1, h2, ⟨h3.os, h3.tape, h3.output, h3.size, h3.block⟩, h4⟩
theorem Laid.trans {w w1 w2 : World} {f B fd : Nat} {h2 : FH} {dv dv1 : Value} {d2 : FD} (hw : Wrote (fun k => k = f ∨ k = fd ∨ dv.ownBlock = some k) w w1) (hat : dv1.ownBlock = dv.ownBlock ∨ ∃ k, dv1.ownBlock = some k ∧ w.heap.size ≤ k)
    (h : Laid w1 w2 f B fd h2 dv1 d2) : Laid w w2 f B fd h2 dv d2 := by
  obtain ⟨dv2, hH, hD, hw2, hat2⟩ := h
  refine ⟨dv2, hH, hD, ?_, ?_⟩
  · refine ⟨hw2.os.trans hw.os, hw2.tape.trans hw.tape, hw2.output.trans hw.output, Nat.le_trans hw.size hw2.size, fun k hk hs => ?_⟩
    refine (hw2.block k (Nat.lt_of_lt_of_le hk hw.size) (fun hs2 => ?_)).trans (hw.block k hk hs)
    rcases hs2 with e | e | e
    · exact hs (.inl e)
    · exact hs (.inr (.inl e))
    · rcases hat with e2 | ⟨j, e2, hj⟩
      · exact hs (.inr (.inr (e2 ▸ e)))
      · rw [e2] at e; injection e with e; omega
  · rcases hat2 with e | ⟨j, e, hj⟩
    · rcases hat with e2 | ⟨i, e2, hi⟩
      · exact .inl (e.trans e2)
      · exact .inr ⟨i, e.trans e2, hi⟩
    · exact .inr ⟨j, e, Nat.le_trans hw.size hj⟩
/-- A row written behind the data's slice, and the slice stored back. -/
theorem laid_store {w w1 : World} {f B fd n : Nat} {h : FH} {dv v1 : Value} {d : FD} {l : List Int} {xs : List Value} (hH : HandleIs w f h) (hD : DataIs w B fd dv d) (ho : w1.ownsRow B tU8 1 v1 n xs) (hg : w.grownBy w1 dv.ownBlock)
    (hat : v1.ownBlock = dv.ownBlock ∨ v1.ownBlock = some w.heap.size) (hn : n = l.length) (hx : xs = l.map (Value.int .u8)) (hl : ∀ c ∈ l, 0 ≤ c ∧ c ≤ 255) : Laid w (w1.setCell ⟨fd, 1, none⟩ v1) f B fd h dv { d with bs := l } := by
  subst hn hx
  have hw := wrote_grown hg
  have hd1 := (hw.block fd (lt_of_heap hD.1) (fun e => row_fd hD fd e rfl)).trans hD.1
  have hh1 := hH.wrote hw (fun e => row_fh hD hH f e rfl)
  have hf : ∀ k, v1.ownBlock = some k → k ≠ fd := fun k hk => by
    obtain ⟨c, hc⟩ := own_typed ho k hk
    exact blk_ne hc hd1 (by decide)
  refine ⟨v1, hh1.set (p := ⟨fd, 1, none⟩) (fun e => fd_ne hD hH e.symm) _, ⟨Go.Rd.heap_setCell_same (o := 1) hd1 _, own_move ho (fun k hk => Below.heap_setCell _ _ _ _ (hf k hk)), hl⟩, (hw.mono (fun k _ hk => .inr (.inr hk))).setCell (fun _ => .inr (.inl rfl)) _, ?_⟩
  rcases hat with e | e
  · exact .inl e
  · exact .inr ⟨_, e, Nat.le_refl _⟩
/-- The handle's place moved, behind a write of the data's block. -/
theorem laid_last {w w3 : World} {f B fd : Nat} {a rdc : Int} {cl ro : Bool} {dv : Value} {d0 d : FD} (hH : HandleIs w f ⟨a, rdc, cl, ro, fd⟩) (hD0 : DataIs w B fd dv d0) (hD : DataIs w3 B fd dv d) (hW : Wrote (fun k => k = fd) w w3) (x : Int) :
    Laid w (w3.setCell ⟨f, 0, none⟩ (.int .i64 x)) f B fd ⟨x, rdc, cl, ro, fd⟩ dv d := by
  have hH3 := hH.wrote hW (fun e => fd_ne hD0 hH e.symm)
  refine ⟨dv, Go.Rd.heap_setCell_same (o := 0) hH3 _, hD.wrote (wrote_set w3 f 0 _) (fun e => fd_ne hD hH3 e) (fun k hk e => row_fh hD hH3 k hk e), ?_, .inl rfl⟩
  exact (hW.mono (fun k _ hk => .inr (.inl hk))).setCell (fun _ => .inl rfl) _
/-- A block's type. -/
def Typed (w : World) (b : Nat) (t : TypeId) : Prop := ∃ c fr, w.heap[b]? = some (.cells c t fr)
theorem Typed.of {w : World} {b : Nat} {t : TypeId} {c : Array Value} {fr : Nat × Nat} (h : w.heap[b]? = some (.cells c t fr)) : Typed w b t := ⟨c, fr, h⟩
theorem Typed.set {w : World} {b : Nat} {t : TypeId} (h : Typed w b t) (p : Addr) (u : Value) : Typed (w.setCell p u) b t := by
  obtain ⟨c, fr, h⟩ := h
  by_cases e : b = p.block
  · subst e
    obtain ⟨pb, po, ps⟩ := p
    have h' : w.heap[pb]? = some (.cells c t fr) := h
    refine ⟨if ps.isSome = true then c else c.setIfInBounds po u, fr, ?_⟩
    simp only [World.setCell, Array.getElem?_modify, if_pos, h', Option.map_some]
  · exact ⟨c, fr, (Below.heap_setCell _ _ _ _ e).trans h⟩
/-- A store into a new block of another type. -/
theorem Laid.set {w wx : World} {f B fd : Nat} {h : FH} {dv : Value} {d : FD} (hl : Laid w wx f B fd h dv d) {p : Addr} {t : TypeId} (ht : Typed wx p.block t) (h1 : t ≠ tFH) (h2 : t ≠ tFD) (h3 : t ≠ tU8) (hn : w.heap.size ≤ p.block) (u : Value) : Laid w (wx.setCell p u) f B fd h dv d := by
  obtain ⟨dv1, hH, hD, hW, hat⟩ := hl
  obtain ⟨c, fr, hc⟩ := ht
  have e1 : f ≠ p.block := blk_ne hH hc h1.symm
  have e2 : fd ≠ p.block := blk_ne hD.1 hc h2.symm
  refine ⟨dv1, hH.set e1 u, ⟨setCell_keeps hD.1 e2 u, own_move hD.2.1 (fun k hk => Below.heap_setCell _ _ _ _ (fun e => ?_)), hD.2.2⟩, wrote_new hW hn u, hat⟩
  obtain ⟨c', hc'⟩ := own_typed hD.2.1 k hk
  exact blk_ne hc' hc h3.symm e
/-- Where a seek comes to. -/
def seekTo (h : FH) (n : Nat) (off wh : Int) : Int := if wh = 0 then off else if wh = 1 then h.at_ + off else if wh = 2 then n + off else h.at_
set_option maxHeartbeats 1000000 in
theorem seek_any (f B : Nat) (dv : Value) (h : FH) (d : FD) (off wh : Int) (w : World) (hH : HandleIs w f h) (hD : DataIs w B h.fd dv d) (hcl : h.cl = false)
    (h1 : -1152921504606846976 ≤ h.at_ ∧ h.at_ ≤ 1152921504606846976) (h2 : -1152921504606846976 ≤ off ∧ off ≤ 1152921504606846976) (h3 : d.bs.length ≤ 1152921504606846976) :
    Calls Tryd.prog 37 #[.pointer (some ⟨f, 0, none⟩), .int .i64 off, .int .i64 wh] w fun e w' => e = .returned (.tuple #[.int .i64 (seekTo h d.bs.length off wh), .nilIface]) ∧ HandleIs w' f { h with at_ := seekTo h d.bs.length off wh } ∧ Wrote (fun k => k = f) w w' := by
  obtain ⟨at_, rdc, cl, ro, fd⟩ := h
  simp only at hcl h1 hD
  subst hcl
  obtain ⟨A, c, rfl⟩ := hD.slice
  have c0 := (cell_of hH 0).trans rfl
  have c2 := (cell_of hH 2).trans rfl
  have c4 := (cell_of hH 4).trans rfl
  have d1 := (cell_of hD.1 1).trans rfl
  have f0 := free_of hH 0
  obtain ⟨a1, a2⟩ := h1
  obtain ⟨b1, b2⟩ := h2
  have HS : Hid (HandleIs w f ⟨at_, rdc, false, ro, fd⟩) := hH
  clear hH
  unfold seekTo
  by_cases e0 : wh = 0
  · subst e0
    go_enter Tryd.func37, Tryd.ntmps37
    go_wp2
    go_ret2
    exact ⟨rfl, Go.Rd.heap_setCell_same (o := 0) HS.out _, wrote_set _ _ _ _⟩
  by_cases e1 : wh = 1
  · subst e1
    clear e0
    go_enter Tryd.func37, Tryd.ntmps37
    go_wp2
    go_ret2
    exact ⟨rfl, Go.Rd.heap_setCell_same (o := 0) HS.out _, wrote_set _ _ _ _⟩
  by_cases e2 : wh = 2
  · subst e2
    clear e0 e1
    go_enter Tryd.func37, Tryd.ntmps37
    go_wp2
    go_ret2
    exact ⟨rfl, Go.Rd.heap_setCell_same (o := 0) HS.out _, wrote_set _ _ _ _⟩
  · rw [if_neg e0, if_neg e1, if_neg e2]
    have g0 : (wh == 0) = false := beq_eq_false_iff_ne.2 e0
    have g1 : (wh == 1) = false := beq_eq_false_iff_ne.2 e1
    have g2 : (wh == 2) = false := beq_eq_false_iff_ne.2 e2
    clear e0 e1 e2
    go_enter Tryd.func37, Tryd.ntmps37
    go_wp2
    go_ret2
    exact ⟨rfl, HS.out, Wrote.refl _ _⟩
end Go.Proofs.YtnkhfdnahnphdaaDoor
end
section
namespace Go.Proofs.YtnkhfdnahnphdaaDoor
open Go.ChangeShapes Go.WideShapes Go.ChangeAt Go.RowKit Go.Rd
open Go.Proofs.YtnkhfdnahnphdaaDoorW.PrintWords Go.Proofs.YtnkhfdnahnphdaaDoorW.PrintLast Go.Proofs.YtnkhfdnahnphdaaDoorW.PrintMore
theorem assert_nil (W : World) : (Instr.typeAssert .nilIface 96 124 true).run Tryd.prog W = .ok (.tuple #[.pointer none, .bool false]) W := by kernel_rfl
theorem nil_nil (W : World) : (binOp .eql 96 .nilIface .nilIface).run Tryd.prog W = .ok (.bool true) W := by kernel_rfl
set_option maxHeartbeats 1000000 in
theorem kind_nil (w : World) : Calls Tryd.prog 46 #[Value.nilIface] w fun e w' => e = .returned (.int .i64 0) ∧ w = w' := by
  have h1 := assert_nil w
  have h2 := nil_nil w
  go_enter Tryd.func46, Tryd.ntmps46
  go_wp2
  go_ret
  exact ⟨rfl, rfl⟩
/-- A step as a value. -/
structure Stp where
  op : Int
  name : ByteArray
  other : ByteArray
  flag : Int
  perm : Int
  h : Int
  da : Option Addr
  dl : Nat
  dc : Nat
  off : Int
  wh : Int
  n : Int
def Stp.val (s : Stp) : Value := .agg #[.int .i64 s.op, .string s.name, .string s.other, .int .i64 s.flag, .int .i64 s.perm, .int .i64 s.h, .slice s.da s.dl s.dc, .int .i64 s.off, .int .i64 s.wh, .int .i64 s.n]
/-- An answer without names and infos as a value. -/
def ansVal (e n off : Int) (dv : Value) : Value := .agg #[.int .i64 e, .int .i64 n, .int .i64 off, dv, .slice none 0 0, .slice none 0 0]
end Go.Proofs.YtnkhfdnahnphdaaDoor
end
