/- The walk of HandleScript: a file and a handle, and steps on it. -/
import Derived.Test.YtnkhfdnahnphdaaDoorOnWalk
import Derived.Test.YtnkhfdnahnphdaaDoorAp
namespace Go.Proofs.YtnkhfdnahnphdaaDoor
open Go.ChangeShapes Go.WideShapes Go.ChangeAt Go.RowKit Go.Rd
open Go.Proofs.YtnkhfdnahnphdaaDoorW.PrintWords Go.Proofs.YtnkhfdnahnphdaaDoorW.PrintLast Go.Proofs.YtnkhfdnahnphdaaDoorW.PrintMore

/-- The state of a file and of its handle, as a script has them. -/
structure St where
  at_ : Int
  cl : Bool
  ro : Bool
  bs : List Int
def St.fh (s : St) (fd : Nat) : FH := ⟨s.at_, 0, s.cl, s.ro, fd⟩
def St.fd (s : St) : FD := ⟨⟨#[47, 102]⟩, s.bs, .map none, false, 268435456, 0, 0, 0⟩
/-- An answer. -/
structure Ans where
  e : Int
  n : Int
  off : Int
  data : List Int
/-- What an answer's cells hold; 'bad': blocks that its bytes don't lie in. -/
def AnsK (w : World) (bad : Nat → Prop) (a : Ans) (cs : List Value) : Prop :=
  ∃ A c, cs = [.int .i64 a.e, .int .i64 a.n, .int .i64 a.off, .slice A a.data.length c, .slice none 0 0, .slice none 0 0] ∧ BytesIn w A a.data.length c a.data ∧ ∀ y, A = some y → ¬ bad y.block ∧ y.block < w.heap.size
/-- The blocks of a file and its handle. -/
def Feet (f fd : Nat) (dv : Value) (k : Nat) : Prop := k = f ∨ k = fd ∨ dv.ownBlock = some k

theorem bytes_wrote {w w' : World} {S : Nat → Prop} {A : Option Addr} {n c : Nat} {l : List Int} (h : BytesIn w A n c l) (hw : Wrote S w w') (hs : ∀ y, A = some y → ¬ S y.block) : BytesIn w' A n c l :=
  ⟨h.len, h.nil, h.le, h.max, fun y hy j u hu => by
    have hc := h.cells y hy j u hu
    exact (World.cell?_of_block (hw.block _ (cell_lt hc) (fun e => hs y hy (by rw [Go.Rd.add_block] at e; exact e)))).trans hc, h.fits⟩
theorem AnsK.step {w w' : World} {S S' : Nat → Prop} {a : Ans} {cs : List Value} (h : AnsK w S a cs) (hw : Wrote S w w') (hS : ∀ k, S' k → S k ∨ w.heap.size ≤ k) : AnsK w' S' a cs := by
  obtain ⟨A, c, rfl, hb, hn⟩ := h
  refine ⟨A, c, rfl, bytes_wrote hb hw (fun y hy => (hn y hy).1), fun y hy => ⟨fun hk => ?_, Nat.lt_of_lt_of_le (hn y hy).2 hw.size⟩⟩
  rcases hS _ hk with e | e
  · exact (hn y hy).1 e
  · have := (hn y hy).2; omega
theorem AnsK.bad {w : World} {S S' : Nat → Prop} {a : Ans} {cs : List Value} (h : AnsK w S a cs) (hS : ∀ k, S' k → S k) : AnsK w S' a cs := by
  obtain ⟨A, c, rfl, hb, hn⟩ := h
  exact ⟨A, c, rfl, hb, fun y hy => ⟨fun hk => (hn y hy).1 (hS _ hk), (hn y hy).2⟩⟩
theorem AnsK.below {w w' : World} {S : Nat → Prop} {a : Ans} {cs : List Value} (h : AnsK w S a cs) (hw : Below w.heap.size w w') : AnsK w' S a cs := by
  obtain ⟨A, c, rfl, hb, hn⟩ := h
  exact ⟨A, c, rfl, hb.below hw, fun y hy => ⟨(hn y hy).1, Nat.lt_of_lt_of_le (hn y hy).2 hw.size⟩⟩
theorem AnsK.len {w : World} {S : Nat → Prop} {a : Ans} {cs : List Value} (h : AnsK w S a cs) : cs.length = 6 := by obtain ⟨A, c, rfl, _⟩ := h; rfl
theorem AnsK.one {w : World} {S : Nat → Prop} {a : Ans} {cs : List Value} (h : AnsK w S a cs) : ∀ u ∈ cs, u.oneCell' = true := by
  obtain ⟨A, c, rfl, _⟩ := h
  intro u hu
  simp at hu
  rcases hu with rfl | rfl | rfl | rfl | rfl <;> rfl

/-- What a step does, wherever the file lies. -/
def StepOk (s : St) (x : Stp × List Int) (a : Ans) (s' : St) : Prop :=
  ∀ (w : World) (f B fd : Nat) (dv : Value), HandleIs w f (s.fh fd) → DataIs w B fd dv s.fd → BytesIn w x.1.da x.1.dl x.1.dc x.2 → B ≤ w.heap.size →
    Calls Tryd.prog 23 #[.pointer (some ⟨f, 0, none⟩), x.1.val] w fun e w' => ∃ cs, e = .returned (.agg cs.toArray) ∧
      ∃ dv1, HandleIs w' f (s'.fh fd) ∧ DataIs w' B fd dv1 s'.fd ∧ Wrote (Feet f fd dv) w w' ∧ (dv1.ownBlock = dv.ownBlock ∨ ∃ k, dv1.ownBlock = some k ∧ w.heap.size ≤ k) ∧ AnsK w' (fun k => Feet f fd dv1 k ∨ k < w.heap.size) a cs
/-- What steps do, one after the other. -/
inductive Runs : St → List (Stp × List Int) → List Ans → St → Prop
  | nil (s : St) : Runs s [] [] s
  | cons {s s' s'' : St} {x : Stp × List Int} {xs : List (Stp × List Int)} {a : Ans} {l : List Ans} : StepOk s x a s' → Runs s' xs l s'' → Runs s (x :: xs) (a :: l) s''

def Stp.cells (s : Stp) : List Value := [.int .i64 s.op, .string s.name, .string s.other, .int .i64 s.flag, .int .i64 s.perm, .int .i64 s.h, .slice s.da s.dl s.dc, .int .i64 s.off, .int .i64 s.wh, .int .i64 s.n]
/-- What a step's cells hold. -/
def StepK (w : World) (x : Stp × List Int) (cs : List Value) : Prop := cs = x.1.cells ∧ BytesIn w x.1.da x.1.dl x.1.dc x.2

set_option maxHeartbeats 1000000 in
theorem door_with (A : Option Addr) (m c : Nat) (b : List Int) (w : World) (B : Nat) (ho : w.ownsRow B tU8 1 (.slice A m c) m (b.map (Value.int .u8))) (hf : ∀ x ∈ b, 0 ≤ x ∧ x ≤ 255) :
    Calls Tryd.prog 20 #[.string ⟨#[47, 102]⟩, .slice A m c] w fun e w' => ∃ fd, e = .returned (.pointer (some ⟨fd, 0, none⟩)) ∧ DataIs w' B fd (.slice A m c) (St.fd ⟨0, false, false, b⟩) ∧ w.heap.size ≤ fd ∧ Below w.heap.size w w' := by
  have hm : b.length = m := by have := ho.1; simpa using this
  subst hm
  go_enter Tryd.func20, Tryd.ntmps20
  go_wp2
  go_ret
  exact ⟨_, rfl, ⟨alloc_new _ _, ho.alloc _, hf⟩, Nat.le_refl _, (Below.refl _ _).alloc (Nat.le_refl _) _⟩
theorem new_handle (fd : Nat) (w : World) : Calls Tryd.prog 21 #[.pointer (some ⟨fd, 0, none⟩)] w fun e w' => ∃ f, e = .returned (.pointer (some ⟨f, 0, none⟩)) ∧ HandleIs w' f ⟨0, 0, false, false, fd⟩ ∧ w.heap.size ≤ f ∧ Below w.heap.size w w' := by
  go_enter Tryd.func21, Tryd.ntmps21
  go_wp2
  go_ret
  exact ⟨_, rfl, alloc_new _ _, Nat.le_refl _, (Below.refl _ _).alloc (Nat.le_refl _) _⟩
theorem new_reader (fd : Nat) (w : World) : Calls Tryd.prog 22 #[.pointer (some ⟨fd, 0, none⟩)] w fun e w' => ∃ f, e = .returned (.pointer (some ⟨f, 0, none⟩)) ∧ HandleIs w' f ⟨0, 0, false, true, fd⟩ ∧ w.heap.size ≤ f ∧ Below w.heap.size w w' := by
  go_enter Tryd.func22, Tryd.ntmps22
  go_wp2
  go_ret
  exact ⟨_, rfl, alloc_new _ _, Nat.le_refl _, (Below.refl _ _).alloc (Nat.le_refl _) _⟩
theorem door_bytes (fd B : Nat) (dv : Value) (d : FD) (w : World) (hD : DataIs w B fd dv d) : Calls Tryd.prog 24 #[.pointer (some ⟨fd, 0, none⟩)] w fun e w' => e = .returned dv ∧ w = w' := by
  have d1 := (cell_of hD.1 1).trans rfl
  go_enter Tryd.func24, Tryd.ntmps24
  go_wp2
  go_ret
  exact ⟨rfl, rfl⟩

theorem info42' : (Tryd.prog.info? 42).map (fun i => (i.zero, i.size, i.bytes)) = some (some (.agg #[.int .i64 0, .int .i64 0, .int .i64 0, .slice none 0 0, .slice none 0 0, .slice none 0 0]), 6, 96) := by kernel_rfl

theorem steps_at {w : World} {A : Option Addr} {L : List (Stp × List Int)} (h : ReadsRow (StepK w) 10 w A L.length L) (k : Nat) (hk : k < L.length) :
    ∃ b off, A = some ⟨b, off, none⟩ ∧ b < w.heap.size ∧ BytesIn w L[k].1.da L[k].1.dl L[k].1.dc L[k].2 ∧
      (w.cell? ⟨b, off + k * 10, none⟩ = some (.int .i64 L[k].1.op) ∧ w.cell? ⟨b, off + k * 10 + 1, none⟩ = some (.string L[k].1.name) ∧ w.cell? ⟨b, off + k * 10 + 2, none⟩ = some (.string L[k].1.other) ∧
       w.cell? ⟨b, off + k * 10 + 3, none⟩ = some (.int .i64 L[k].1.flag) ∧ w.cell? ⟨b, off + k * 10 + 4, none⟩ = some (.int .i64 L[k].1.perm) ∧ w.cell? ⟨b, off + k * 10 + 5, none⟩ = some (.int .i64 L[k].1.h) ∧
       w.cell? ⟨b, off + k * 10 + 6, none⟩ = some (.slice L[k].1.da L[k].1.dl L[k].1.dc) ∧ w.cell? ⟨b, off + k * 10 + 7, none⟩ = some (.int .i64 L[k].1.off) ∧ w.cell? ⟨b, off + k * 10 + 8, none⟩ = some (.int .i64 L[k].1.wh) ∧
       w.cell? ⟨b, off + k * 10 + 9, none⟩ = some (.int .i64 L[k].1.n)) := by
  obtain ⟨ad, e, hc⟩ := h.2.2 (by omega)
  obtain ⟨c, hs, ⟨hr, hb⟩, hcell⟩ := hc k _ (List.getElem?_eq_getElem hk)
  subst hr
  obtain ⟨b, off, sp⟩ := ad
  have hs : sp = none := by
    obtain ⟨c0, _, ⟨hr0, _⟩, hcell0⟩ := hc 0 _ (List.getElem?_eq_getElem (show 0 < L.length by omega))
    subst hr0
    have h0 := hcell0 0 _ rfl
    cases sp with
    | none => rfl
    | some s => simp [Addr.add, World.cell?] at h0; split at h0 <;> simp at h0
  subst hs
  simp only [addr_add] at hcell
  have g : ∀ j u, L[k].1.cells[j]? = some u → w.cell? ⟨b, off + k * 10 + j, none⟩ = some u := fun j u hu => by rw [Nat.add_assoc]; exact hcell j u hu
  refine ⟨b, off, e, ?_, hb, g 0 _ rfl, g 1 _ rfl, g 2 _ rfl, g 3 _ rfl, g 4 _ rfl, g 5 _ rfl, g 6 _ rfl, g 7 _ rfl, g 8 _ rfl, g 9 _ rfl⟩
  exact cell_lt (g 0 _ rfl)

/-- The frame's state in a round. -/
def ScriptRel (w : World) (f fd : Nat) (L : List (Stp × List Int)) (answers : List Ans) (sn : St) (v : Value) (k : Nat) (wr : World) : Prop :=
  ∃ (s : St) (l1 l2 : List Ans) (dv : Value), Hid (Runs s (L.drop k) l2 sn) ∧ Hid (l1 ++ l2 = answers) ∧ l1.length = k ∧ HandleIs wr f (s.fh fd) ∧ DataIs wr w.heap.size fd dv s.fd ∧ w.heap.size ≤ f ∧ w.heap.size ≤ fd ∧
    OwnRow (AnsK wr (fun j => Feet f fd dv j ∨ v.ownBlock = some j)) 42 6 wr w.heap.size v l1 ∧ Below w.heap.size w wr

/-- Behind a step the answers are still there, and the new one lies apart. -/
theorem ans_call {wr w2 : World} {B f fd : Nat} {v dv dv1 : Value} {l1 : List Ans} {a : Ans} {cs : List Value} {h1 : FH} {d1 : FD}
    (hO : OwnRow (AnsK wr (fun j => Feet f fd dv j ∨ v.ownBlock = some j)) 42 6 wr B v l1) (hH : HandleIs wr f h1) (hD : DataIs wr B fd dv d1)
    (hW : Wrote (Feet f fd dv) wr w2) (hat : dv1.ownBlock = dv.ownBlock ∨ ∃ k, dv1.ownBlock = some k ∧ wr.heap.size ≤ k) (hA : AnsK w2 (fun k => Feet f fd dv1 k ∨ k < wr.heap.size) a cs) :
    OwnRow (AnsK w2 (fun j => Feet f fd dv1 j ∨ v.ownBlock = some j)) 42 6 w2 B v l1 ∧ AnsK w2 (fun j => Feet f fd dv1 j ∨ v.ownBlock = some j) a cs := by
  obtain ⟨inner, hin, hri⟩ := hO
  refine ⟨⟨inner, own_move hin (fun k hk => hW.block k (own_lt hin k hk) (fun hs => ?_)), hri.imp_ (fun p c hp => AnsK.step (S := fun j => Feet f fd dv j ∨ v.ownBlock = some j) hp (hW.mono (fun k _ hk => .inl hk)) (fun k hk => ?_))⟩, AnsK.bad hA (fun k hk => ?_)⟩
  · obtain ⟨c, hc⟩ := own_typed hin k hk
    rcases hs with e | e | e
    · exact blk_ne hc hH (by decide) e
    · exact blk_ne hc hD.1 (by decide) e
    · obtain ⟨c', hc'⟩ := own_typed hD.2.1 k e
      exact blk_ne hc hc' (by decide) rfl
  · rcases hk with hk | hk
    · rcases hk with e | e | e
      · exact .inl (.inl (.inl e))
      · exact .inl (.inl (.inr (.inl e)))
      · rcases hat with h | ⟨i, h, hi⟩
        · exact .inl (.inl (.inr (.inr (h ▸ e))))
        · rw [h] at e; injection e with e; exact .inr (by omega)
    · exact .inl (.inr hk)
  · rcases hk with hk | hk
    · exact .inl hk
    · exact .inr (own_lt hin k hk)
theorem feet_old {w wr : World} {f fd j : Nat} {dv : Value} {d : FD} (hf : w.heap.size ≤ f) (hfd : w.heap.size ≤ fd) (hD : DataIs wr w.heap.size fd dv d) (hs : Feet f fd dv j) (hj : j < w.heap.size) : False := by
  rcases hs with e | e | e
  · omega
  · omega
  · have := own_base hD.2.1 j e; omega
theorem own_ne_h {w2 : World} {R : Ans → List Value → Prop} {B f : Nat} {v : Value} {l : List Ans} {h : FH} (hO : OwnRow R 42 6 w2 B v l) (hH : HandleIs w2 f h) (e : v.ownBlock = some f) : False := by
  obtain ⟨inner, hin, _⟩ := hO
  obtain ⟨c, hc⟩ := own_typed hin f e
  exact blk_ne hc hH (by decide) rfl
theorem own_ne_d {w2 : World} {R : Ans → List Value → Prop} {B B' fd : Nat} {v dv : Value} {l : List Ans} {d : FD} (hO : OwnRow R 42 6 w2 B v l) (hD : DataIs w2 B' fd dv d) (e : v.ownBlock = some fd) : False := by
  obtain ⟨inner, hin, _⟩ := hO
  obtain ⟨c, hc⟩ := own_typed hin fd e
  exact blk_ne hc hD.1 (by decide) rfl
theorem own_ne_r {w2 : World} {R : Ans → List Value → Prop} {B B' fd j : Nat} {v dv : Value} {l : List Ans} {d : FD} (hO : OwnRow R 42 6 w2 B v l) (hD : DataIs w2 B' fd dv d) (e : v.ownBlock = some j) (hj : dv.ownBlock = some j) : False := by
  obtain ⟨inner, hin, _⟩ := hO
  obtain ⟨c, hc⟩ := own_typed hin j e
  obtain ⟨c', hc'⟩ := own_typed hD.2.1 j hj
  exact blk_ne hc hc' (by decide) rfl
/-- Behind the append. -/
theorem ans_append {w2 w3 : World} {B f fd : Nat} {v v1 dv1 : Value} {l : List Ans} (hO : OwnRow (AnsK w2 (fun j => Feet f fd dv1 j ∨ v.ownBlock = some j)) 42 6 w3 B v1 l) (hg : w2.grownBy w3 v.ownBlock) (hat : v1.ownBlock = v.ownBlock ∨ ∃ b, v1.ownBlock = some b ∧ w2.heap.size ≤ b) :
    OwnRow (AnsK w3 (fun j => Feet f fd dv1 j ∨ v1.ownBlock = some j)) 42 6 w3 B v1 l :=
  hO.imp_ (fun p c hp => AnsK.step (S := fun j => Feet f fd dv1 j ∨ v.ownBlock = some j) hp ((wrote_grown hg).mono (fun k _ hk => .inr hk)) (fun k hk => by
    rcases hk with hk | hk
    · exact .inl (.inl hk)
    · rcases hat with h | ⟨b, h, hb⟩
      · exact .inl (.inr (h ▸ hk))
      · rw [h] at hk; injection hk with hk; exact .inr (by omega)))

set_option maxRecDepth 100000 in
set_option maxHeartbeats 2000000 in
theorem script_any (dA : Option Addr) (dm dc : Nat) (data : List Int) (ro : Bool) (A : Option Addr) (c : Nat) (L : List (Stp × List Int)) (answers : List Ans) (sn : St) (w : World) (hb : BytesIn w dA dm dc data) (hdm : dm ≤ 4294967296)
    (hS : ReadsRow (StepK w) 10 w A L.length L) (hL : L.length ≤ 1000000) (hR : Hid (Runs ⟨0, false, ro, data⟩ L answers sn)) (hsn : sn.bs.length ≤ 4294967296) :
    Calls Tryd.prog 14 #[.slice dA dm dc, .bool ro, .slice A L.length c] w fun e w' => ∃ v lA lc, e = .returned (.tuple #[v, .slice lA sn.bs.length lc]) ∧ OwnRow (AnsK w' (fun _ => False)) 42 6 w' w.heap.size v answers ∧ BytesIn w' lA sn.bs.length lc sn.bs ∧ Below w.heap.size w w' := by
  cases ro with
  | true =>
    go_enter Tryd.func14, Tryd.ntmps14
    go_wp2_with (first
      | (at_builtin; refine append_src rfl (.const (.slice none 0 0)) (.tmp 13) 22 rfl w.heap.size 5 _ (.int .u8 0) 1 1 Tryd.underlying22 rfl rfl rfl rfl rfl (by decide) (.slice none 0 0) 0 [] rfl (World.ownsRow_nil _ _ _ _) dA dm dc (data.map (Value.int .u8)) rfl (hb.src).1 hb.nil hb.cells (hb.src).2.2.2 (by unfold maxLen; omega) (by omega) (Nat.le_refl _) ?_; intro v1 w1 ho1 hg1; rw [Nat.zero_add, List.nil_append] at ho1; obtain ⟨A1, c1, e1⟩ := own_slice ho1; subst e1; have hB1 : Below w.heap.size w w1 := ⟨hg1.os, hg1.tape, hg1.output, hg1.size, fun k hk => hg1.block k hk (by simp [Value.ownBlock])⟩)
      | (go_at_call 20; refine (door_with A1 dm c1 data w1 w.heap.size ho1 hb.fits).mono ?_; rintro e w2 ⟨fd, rfl, hD2, hfd2, hB2⟩; have hB2' := hB1.trans (hB2.mono hB1.size); have hfd := Nat.le_trans hB1.size hfd2)
      | (go_at_call 21; refine (new_handle fd w2).mono ?_; rintro e w2a ⟨f0, rfl, _, _, hB2a⟩; have hD2a := hD2.below hB2a; have hB2b := hB2'.trans (hB2a.mono hB2'.size))
      | (go_at_call 22; refine (new_reader fd w2a).mono ?_; rintro e w3 ⟨f, rfl, hH3, hf3, hB3⟩; have hD3 := hD2a.below hB3; have hB3' := hB2b.trans (hB3.mono hB2b.size); have hf := Nat.le_trans hB2b.size hf3))
    go_loopw [10, 23] (fun v i wr => ∃ k : Nat, k ≤ L.length ∧ i = .int .i64 k ∧ ScriptRel w f fd L answers sn v k wr) (fun _ i _ => L.length - (intOf i).toNat)
    case atStart => exact ⟨0, Nat.zero_le _, rfl, ⟨0, false, true, data⟩, [], answers, _, hR, rfl, rfl, hH3, hD3, hf, hfd, OwnRow.none_ _ _ _ _ _, hB3'⟩
    case round =>
      obtain ⟨k, hk, rfl, s, l1, l2, dv, hRs, hE, hk1, hH, hD, _, _, hO, hB⟩ := hrel
      by_cases hlt : k < L.length
      · obtain ⟨b, off, eA, hbl, hbk, x0, x1, x2, x3, x4, x5, x6, x7, x8, x9⟩ := steps_at hS k hlt
        subst eA
        have hBC : ∀ j v, w.cell? ⟨b, j, none⟩ = some v → wr.cell? ⟨b, j, none⟩ = some v := fun j v h => (hB.cell (p := ⟨b, j, none⟩) hbl).trans h
        have y0 := hBC _ _ x0
        have y1 := hBC _ _ x1
        have y2 := hBC _ _ x2
        have y3 := hBC _ _ x3
        have y4 := hBC _ _ x4
        have y5 := hBC _ _ x5
        have y6 := hBC _ _ x6
        have y7 := hBC _ _ x7
        have y8 := hBC _ _ x8
        have y9 := hBC _ _ x9
        clear hBC x0 x1 x2 x3 x4 x5 x6 x7 x8 x9
        have hbk' := hbk.below hB
        have hR2 := hRs.out
        rw [List.drop_eq_getElem_cons hlt] at hR2
        obtain ⟨a, l3, s', rfl, hst, hRn⟩ : ∃ a l3 s', l2 = a :: l3 ∧ StepOk s L[k] a s' ∧ Runs s' (L.drop (k + 1)) l3 sn := by
          cases hR2 with
          | cons h1 h2 => exact ⟨_, _, _, rfl, h1, h2⟩
        have hbox : ∀ o, OwnRow (AnsK (wr.alloc o) (fun j => Feet f fd dv j ∨ u10.ownBlock = some j)) 42 6 (wr.alloc o) w.heap.size u10 l1 := fun o => (hO.imp_ (fun p c hp => AnsK.below hp ((Below.refl _ _).alloc (Nat.le_refl _) o))).below ((Below.refl _ _).alloc (Nat.le_refl _) o)
        have HRn := Lib.hid hRn
        have HST := Lib.hid hst
        clear hRs hR2 hRn hst
        go_wp2_with (first
          | (go_at_call 23; refine (HST.out _ f w.heap.size fd dv (hH.below ((Below.refl _ _).alloc (Nat.le_refl _) _)) (hD.below ((Below.refl _ _).alloc (Nat.le_refl _) _)) (hbk'.below ((Below.refl _ _).alloc (Nat.le_refl _) _)) (by have := hB.size; simp; omega)).mono ?_; rintro e w4 ⟨cs, rfl, dv1, hH4, hD4, hW4, hat4, hA4⟩; obtain ⟨hO4, hA4'⟩ := ans_call (hbox _) (hH.below ((Below.refl _ _).alloc (Nat.le_refl _) _)) (hD.below ((Below.refl _ _).alloc (Nat.le_refl _) _)) hW4 hat4 hA4; have hB4 : Below w.heap.size w w4 := (hB.alloc hB.size _).trans (hW4.below (by have := hB.size; simp; omega) (fun j hj hs => feet_old hf hfd hD hs hj)); have hA6 := id hA4'; obtain ⟨Aa, ca, ecs, hba, hna⟩ := hA6; subst ecs; clear hA4 hba hna hat4 hW4)
          | (at_builtin; refine OwnRow.append (w0 := w) (R := AnsK w4 (fun j => Feet f fd dv1 j ∨ u10.ownBlock = some j)) w.heap.size rfl (.tmp 27) (.tmp 31) 36 42 (.agg #[.int .i64 0, .int .i64 0, .int .i64 0, .slice none 0 0, .slice none 0 0, .slice none 0 0]) 6 96 rfl Tryd.underlying36 info42' rfl (by decide) (by decide) u10 l1 a [.int .i64 a.e, .int .i64 a.n, .int .i64 a.off, .slice Aa a.data.length ca, .slice none 0 0, .slice none 0 0] rfl (by simp [Act.eval]) hA4' rfl (AnsK.one hA4') hO4 hB4 hB4.size (by omega) ?_; intro v5 w5 hO5 hB5 hg5 hat5))
        go_roundw
        case rel =>
          refine ⟨k + 1, by omega, by go_num, s', l1 ++ [a], l3, dv1, HRn, ?_, by simp; omega, (hH4.wrote (wrote_grown hg5) ?_), (hD4.wrote (wrote_grown hg5) ?_ ?_), hf, hfd, ans_append hO5 hg5 hat5, hB5⟩
          · have := hE.out
            rw [← this]
            simp [Hid]
          · exact fun e => own_ne_h hO4 hH4 e
          · exact fun e => own_ne_d hO4 hD4 e
          · exact fun j hj e => own_ne_r hO4 hD4 e hj
        case measure => simp [intOf]; omega
      · obtain rfl : k = L.length := by omega
        have hR2 := hRs.out
        rw [List.drop_length] at hR2
        obtain ⟨rfl, rfl⟩ : l2 = [] ∧ s = sn := by cases hR2; exact ⟨rfl, rfl⟩
        have hE2 := hE.out
        rw [List.append_nil] at hE2
        subst hE2
        obtain ⟨Ad, cd, rfl, hbd⟩ := BytesIn.own (show wr.ownsRow w.heap.size tU8 1 dv s.bs.length (s.bs.map (Value.int .u8)) from hD.2.1) hD.2.2
        clear hRs hR2 hE
        go_wp2_with (first
          | (go_at_call 24; refine (door_bytes fd w.heap.size _ s.fd wr hD).mono ?_; rintro e w4 ⟨rfl, rfl⟩)
          | (at_builtin; refine append_src rfl (.const (.slice none 0 0)) (.tmp 36) 22 rfl wr.heap.size 5 _ (.int .u8 0) 1 1 Tryd.underlying22 rfl rfl rfl rfl rfl (by decide) (.slice none 0 0) 0 [] rfl (World.ownsRow_nil _ _ _ _) Ad s.bs.length cd (s.bs.map (Value.int .u8)) rfl (hbd.src).1 hbd.nil hbd.cells (hbd.src).2.2.2 (by unfold maxLen; omega) (by omega) (Nat.le_refl _) ?_; intro v5 w5 ho5 hg5; rw [Nat.zero_add, List.nil_append] at ho5; obtain ⟨A5, c5, e5, hb5⟩ := BytesIn.own ho5 hD.2.2; subst e5; have hB5 : Below wr.heap.size wr w5 := ⟨hg5.os, hg5.tape, hg5.output, hg5.size, fun k hk => hg5.block k hk (by simp [Value.ownBlock])⟩))
        go_ret2
        exact ⟨_, A5, c5, rfl, ((hO.imp_ (fun p c hp => AnsK.bad (AnsK.below hp hB5) (fun _ h => h.elim))).below hB5), hb5, hB.trans (hB5.mono hB.size)⟩
  | false =>
    go_enter Tryd.func14, Tryd.ntmps14
    go_wp2_with (first
      | (at_builtin; refine append_src rfl (.const (.slice none 0 0)) (.tmp 13) 22 rfl w.heap.size 5 _ (.int .u8 0) 1 1 Tryd.underlying22 rfl rfl rfl rfl rfl (by decide) (.slice none 0 0) 0 [] rfl (World.ownsRow_nil _ _ _ _) dA dm dc (data.map (Value.int .u8)) rfl (hb.src).1 hb.nil hb.cells (hb.src).2.2.2 (by unfold maxLen; omega) (by omega) (Nat.le_refl _) ?_; intro v1 w1 ho1 hg1; rw [Nat.zero_add, List.nil_append] at ho1; obtain ⟨A1, c1, e1⟩ := own_slice ho1; subst e1; have hB1 : Below w.heap.size w w1 := ⟨hg1.os, hg1.tape, hg1.output, hg1.size, fun k hk => hg1.block k hk (by simp [Value.ownBlock])⟩)
      | (go_at_call 20; refine (door_with A1 dm c1 data w1 w.heap.size ho1 hb.fits).mono ?_; rintro e w2 ⟨fd, rfl, hD2, hfd2, hB2⟩; have hB2' := hB1.trans (hB2.mono hB1.size); have hfd := Nat.le_trans hB1.size hfd2)
      | (go_at_call 21; refine (new_handle fd w2).mono ?_; rintro e w3 ⟨f, rfl, hH3, hf3, hB3⟩; have hD3 := hD2.below hB3; have hB3' := hB2'.trans (hB3.mono hB2'.size); have hf := Nat.le_trans hB2'.size hf3))
    go_loopw [10, 23] (fun v i wr => ∃ k : Nat, k ≤ L.length ∧ i = .int .i64 k ∧ ScriptRel w f fd L answers sn v k wr) (fun _ i _ => L.length - (intOf i).toNat)
    case atStart => exact ⟨0, Nat.zero_le _, rfl, ⟨0, false, false, data⟩, [], answers, _, hR, rfl, rfl, hH3, hD3, hf, hfd, OwnRow.none_ _ _ _ _ _, hB3'⟩
    case round =>
      obtain ⟨k, hk, rfl, s, l1, l2, dv, hRs, hE, hk1, hH, hD, _, _, hO, hB⟩ := hrel
      by_cases hlt : k < L.length
      · obtain ⟨b, off, eA, hbl, hbk, x0, x1, x2, x3, x4, x5, x6, x7, x8, x9⟩ := steps_at hS k hlt
        subst eA
        have hBC : ∀ j v, w.cell? ⟨b, j, none⟩ = some v → wr.cell? ⟨b, j, none⟩ = some v := fun j v h => (hB.cell (p := ⟨b, j, none⟩) hbl).trans h
        have y0 := hBC _ _ x0
        have y1 := hBC _ _ x1
        have y2 := hBC _ _ x2
        have y3 := hBC _ _ x3
        have y4 := hBC _ _ x4
        have y5 := hBC _ _ x5
        have y6 := hBC _ _ x6
        have y7 := hBC _ _ x7
        have y8 := hBC _ _ x8
        have y9 := hBC _ _ x9
        clear hBC x0 x1 x2 x3 x4 x5 x6 x7 x8 x9
        have hbk' := hbk.below hB
        have hR2 := hRs.out
        rw [List.drop_eq_getElem_cons hlt] at hR2
        obtain ⟨a, l3, s', rfl, hst, hRn⟩ : ∃ a l3 s', l2 = a :: l3 ∧ StepOk s L[k] a s' ∧ Runs s' (L.drop (k + 1)) l3 sn := by
          cases hR2 with
          | cons h1 h2 => exact ⟨_, _, _, rfl, h1, h2⟩
        have hbox : ∀ o, OwnRow (AnsK (wr.alloc o) (fun j => Feet f fd dv j ∨ u10.ownBlock = some j)) 42 6 (wr.alloc o) w.heap.size u10 l1 := fun o => (hO.imp_ (fun p c hp => AnsK.below hp ((Below.refl _ _).alloc (Nat.le_refl _) o))).below ((Below.refl _ _).alloc (Nat.le_refl _) o)
        have HRn := Lib.hid hRn
        have HST := Lib.hid hst
        clear hRs hR2 hRn hst
        go_wp2_with (first
          | (go_at_call 23; refine (HST.out _ f w.heap.size fd dv (hH.below ((Below.refl _ _).alloc (Nat.le_refl _) _)) (hD.below ((Below.refl _ _).alloc (Nat.le_refl _) _)) (hbk'.below ((Below.refl _ _).alloc (Nat.le_refl _) _)) (by have := hB.size; simp; omega)).mono ?_; rintro e w4 ⟨cs, rfl, dv1, hH4, hD4, hW4, hat4, hA4⟩; obtain ⟨hO4, hA4'⟩ := ans_call (hbox _) (hH.below ((Below.refl _ _).alloc (Nat.le_refl _) _)) (hD.below ((Below.refl _ _).alloc (Nat.le_refl _) _)) hW4 hat4 hA4; have hB4 : Below w.heap.size w w4 := (hB.alloc hB.size _).trans (hW4.below (by have := hB.size; simp; omega) (fun j hj hs => feet_old hf hfd hD hs hj)); have hA6 := id hA4'; obtain ⟨Aa, ca, ecs, hba, hna⟩ := hA6; subst ecs; clear hA4 hba hna hat4 hW4)
          | (at_builtin; refine OwnRow.append (w0 := w) (R := AnsK w4 (fun j => Feet f fd dv1 j ∨ u10.ownBlock = some j)) w.heap.size rfl (.tmp 27) (.tmp 31) 36 42 (.agg #[.int .i64 0, .int .i64 0, .int .i64 0, .slice none 0 0, .slice none 0 0, .slice none 0 0]) 6 96 rfl Tryd.underlying36 info42' rfl (by decide) (by decide) u10 l1 a [.int .i64 a.e, .int .i64 a.n, .int .i64 a.off, .slice Aa a.data.length ca, .slice none 0 0, .slice none 0 0] rfl (by simp [Act.eval]) hA4' rfl (AnsK.one hA4') hO4 hB4 hB4.size (by omega) ?_; intro v5 w5 hO5 hB5 hg5 hat5))
        go_roundw
        case rel =>
          refine ⟨k + 1, by omega, by go_num, s', l1 ++ [a], l3, dv1, HRn, ?_, by simp; omega, (hH4.wrote (wrote_grown hg5) ?_), (hD4.wrote (wrote_grown hg5) ?_ ?_), hf, hfd, ans_append hO5 hg5 hat5, hB5⟩
          · have := hE.out
            rw [← this]
            simp [Hid]
          · exact fun e => own_ne_h hO4 hH4 e
          · exact fun e => own_ne_d hO4 hD4 e
          · exact fun j hj e => own_ne_r hO4 hD4 e hj
        case measure => simp [intOf]; omega
      · obtain rfl : k = L.length := by omega
        have hR2 := hRs.out
        rw [List.drop_length] at hR2
        obtain ⟨rfl, rfl⟩ : l2 = [] ∧ s = sn := by cases hR2; exact ⟨rfl, rfl⟩
        have hE2 := hE.out
        rw [List.append_nil] at hE2
        subst hE2
        obtain ⟨Ad, cd, rfl, hbd⟩ := BytesIn.own (show wr.ownsRow w.heap.size tU8 1 dv s.bs.length (s.bs.map (Value.int .u8)) from hD.2.1) hD.2.2
        clear hRs hR2 hE
        go_wp2_with (first
          | (go_at_call 24; refine (door_bytes fd w.heap.size _ s.fd wr hD).mono ?_; rintro e w4 ⟨rfl, rfl⟩)
          | (at_builtin; refine append_src rfl (.const (.slice none 0 0)) (.tmp 36) 22 rfl wr.heap.size 5 _ (.int .u8 0) 1 1 Tryd.underlying22 rfl rfl rfl rfl rfl (by decide) (.slice none 0 0) 0 [] rfl (World.ownsRow_nil _ _ _ _) Ad s.bs.length cd (s.bs.map (Value.int .u8)) rfl (hbd.src).1 hbd.nil hbd.cells (hbd.src).2.2.2 (by unfold maxLen; omega) (by omega) (Nat.le_refl _) ?_; intro v5 w5 ho5 hg5; rw [Nat.zero_add, List.nil_append] at ho5; obtain ⟨A5, c5, e5, hb5⟩ := BytesIn.own ho5 hD.2.2; subst e5; have hB5 : Below wr.heap.size wr w5 := ⟨hg5.os, hg5.tape, hg5.output, hg5.size, fun k hk => hg5.block k hk (by simp [Value.ownBlock])⟩))
        go_ret2
        exact ⟨_, A5, c5, rfl, ((hO.imp_ (fun p c hp => AnsK.bad (AnsK.below hp hB5) (fun _ h => h.elim))).below hB5), hb5, hB.trans (hB5.mono hB.size)⟩
end Go.Proofs.YtnkhfdnahnphdaaDoor
