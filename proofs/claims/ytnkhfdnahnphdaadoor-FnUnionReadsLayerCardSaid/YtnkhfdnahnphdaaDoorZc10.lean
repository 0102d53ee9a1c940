/- Parts of the proof, merged: UiWalk, Un, UjPlain. -/
import Derived.Test.YtnkhfdnahnphdaaDoorZc07
import Derived.Test.YtnkhfdnahnphdaaDoorZc09
section
namespace Go.Proofs.YtnkhfdnahnphdaaDoor
open Go.ChangeShapes Go.WideShapes Go.ChangeAt Go.RowKit Go.Rd
open Go.Proofs.YtnkhfdnahnphdaaDoorW.PrintWords Go.Proofs.YtnkhfdnahnphdaaDoorW.PrintLast Go.Proofs.YtnkhfdnahnphdaaDoorW.PrintMore
set_option linter.unusedVariables false
set_option linter.unusedSectionVars false
/-- What an answer's cells hold, of names that none is among. -/
def AnsN (w : World) (bad : Nat → Prop) (a : Ans) (cs : List Value) : Prop :=
  ∃ A c na nc, cs = [.int .i64 a.e, .int .i64 a.n, .int .i64 a.off, .slice A a.data.length c, .slice na 0 nc, .slice none 0 0] ∧ BytesIn w A a.data.length c a.data ∧ ∀ y, A = some y → ¬ bad y.block ∧ y.block < w.heap.size
theorem AnsN.step {w w' : World} {S S' : Nat → Prop} {a : Ans} {cs : List Value} (h : AnsN w S a cs) (hw : Wrote S w w') (hS : ∀ k, S' k → S k ∨ w.heap.size ≤ k) : AnsN w' S' a cs := by
  obtain ⟨A, c, na, nc, rfl, hb, hn⟩ := h
  refine ⟨A, c, na, nc, rfl, bytes_wrote hb hw (fun y hy => (hn y hy).1), fun y hy => ⟨fun hk => ?_, Nat.lt_of_lt_of_le (hn y hy).2 hw.size⟩⟩
  rcases hS _ hk with e | e
  · exact (hn y hy).1 e
  · have := (hn y hy).2; omega
theorem AnsN.bad {w : World} {S S' : Nat → Prop} {a : Ans} {cs : List Value} (h : AnsN w S a cs) (hS : ∀ k, S' k → S k) : AnsN w S' a cs := by
  obtain ⟨A, c, na, nc, rfl, hb, hn⟩ := h
  exact ⟨A, c, na, nc, rfl, hb, fun y hy => ⟨fun hk => (hn y hy).1 (hS _ hk), (hn y hy).2⟩⟩
theorem AnsN.below {w w' : World} {S : Nat → Prop} {a : Ans} {cs : List Value} (h : AnsN w S a cs) (hw : Below w.heap.size w w') : AnsN w' S a cs := by
  obtain ⟨A, c, na, nc, rfl, hb, hn⟩ := h
  exact ⟨A, c, na, nc, rfl, hb.below hw, fun y hy => ⟨(hn y hy).1, Nat.lt_of_lt_of_le (hn y hy).2 hw.size⟩⟩
theorem AnsN.len {w : World} {S : Nat → Prop} {a : Ans} {cs : List Value} (h : AnsN w S a cs) : cs.length = 6 := by obtain ⟨A, c, na, nc, rfl, _⟩ := h; rfl
theorem AnsN.one {w : World} {S : Nat → Prop} {a : Ans} {cs : List Value} (h : AnsN w S a cs) : ∀ u ∈ cs, u.oneCell' = true := by
  obtain ⟨A, c, na, nc, rfl, _⟩ := h
  intro u hu
  simp at hu
  rcases hu with rfl | rfl | rfl | rfl | rfl | rfl <;> rfl
theorem ansN_none (w : World) (S : Nat → Prop) (e n off : Int) (na : Option Addr) (nc : Nat) : AnsN w S ⟨e, n, off, []⟩ [.int .i64 e, .int .i64 n, .int .i64 off, .slice none 0 0, .slice na 0 nc, .slice none 0 0] :=
  ⟨none, 0, na, nc, rfl, bytes_none w, fun y h => by cases h⟩
theorem doF_e {s1 s2 : St} {x : Sx} (hx : x.1.op ≠ 12) (hc : s1.cl = s2.cl) (hr : s1.ro = s2.ro) : (doF s1 x).1.e = (doF s2 x).1.e := by
  unfold doF
  simp only [hx, hc, hr, if_false]
  repeat' split
  all_goals rfl
theorem doF_e4 {s : St} {x : Sx} (hx : x.1.op ≠ 12) : (doF s x).1.e ≠ 4 := by
  unfold doF
  simp only [hx, if_false]
  repeat' split
  all_goals simp
theorem doF_nodata {s : St} {x : Sx} (hx : x.1.op ≠ 12) : (doF s x).1.data = [] := by
  unfold doF
  simp only [hx, if_false]
  repeat' split
  all_goals rfl
theorem doF_n0 {s : St} {x : Sx} (hx : x.1.op ≠ 14) (hx5 : x.1.op ≠ 15) (ho : OpU x) : (doF s x).1.n = 0 := by
  obtain ⟨o1, o2, o3, o4, o5⟩ := ho
  unfold doF
  repeat' split
  all_goals first | rfl | omega
theorem doF_off0 {s : St} {x : Sx} (hx : x.1.op ≠ 16) : (doF s x).1.off = 0 := by
  unfold doF
  simp only [hx, if_false]
  repeat' split
  all_goals rfl
theorem doF_clro {s : St} {x : Sx} : (doF s x).2.cl = (s.cl || decide (x.1.op = 18)) ∧ (doF s x).2.ro = s.ro := by
  unfold doF
  by_cases h : x.1.op = 18
  · simp [h]
  · simp only [h, if_false, decide_false, Bool.or_false]
    repeat' split
    all_goals exact ⟨rfl, rfl⟩
theorem doB_clro {s1 s2 : St} {x : Sx} (hc : s1.cl = s2.cl) (hr : s1.ro = s2.ro) : (doB s1 x (doF s2 x).1).cl = (doF s2 x).2.cl ∧ (doB s1 x (doF s2 x).1).ro = (doF s2 x).2.ro := by
  rw [(doF_clro (s := s2) (x := x)).1, (doF_clro (s := s2) (x := x)).2]
  unfold doB
  by_cases h : x.1.op = 18
  · have e : (doF s2 x).1.e = 0 := by unfold doF; simp [h]
    simp only [h, e, show ¬ ((18 : Int) = 19 ∨ (18 : Int) = 20) by decide, show ¬ ((18 : Int) = 12) by decide, if_false, if_true]
    rw [(doF_clro (s := s1) (x := x)).1, (doF_clro (s := s1) (x := x)).2]
    simp [h, hr]
  · split
    · exact ⟨by simp [hc, h], hr⟩
    split
    · split
      · exact ⟨by simp [hc, h], hr⟩
      · exact ⟨by simp [hc, h], hr⟩
    split
    · rw [(doF_clro (s := s1) (x := x)).1, (doF_clro (s := s1) (x := x)).2]
      exact ⟨by simp [hc, h], hr⟩
    · exact ⟨by simp [hc, h], hr⟩
theorem HandS.bnd {k : Nat} {s : St} (h : Good k s) (hk : k ≤ 1000000) : FlB s := ⟨by have := h.len; omega, by have := h.lo; omega, by have := h.hi; omega⟩
section
variable {w W w' : World} {B u f1 fd1 f2 fd2 : Nat} {dv1 dv2 : Value} {s1 s2 sB sL : St} {S : Nat} {ad : Nat → Addr} {k : Int} {v : Value}
/-- The pair behind a step that began at w. -/
def PairU (w : World) (B u f1 fd1 f2 fd2 : Nat) (dv1 dv2 : Value) (s1 s2 : St) (W : World) : Prop := ∃ dv1' dv2', UQ W B u f1 fd1 f2 fd2 dv1' dv2' s1 s2 ∧ NewOr w dv1 dv1' ∧ NewOr w dv2 dv2'
theorem UQ.typed_ne (h : UQ w B u f1 fd1 f2 fd2 dv1 dv2 s1 s2) {b : Nat} (ht : Typed w b 42) : u ≠ b ∧ ¬ Feet2 f1 fd1 f2 fd2 dv1 dv2 b := by
  obtain ⟨c, fr, hc⟩ := ht
  obtain ⟨c1, hc1⟩ := h.h1.block
  obtain ⟨c2, hc2⟩ := h.h2.block
  refine ⟨blk_ne h.uf hc (by decide), ?_⟩
  rintro ((e | e | e) | (e | e | e))
  · exact blk_ne hc hc1 (by decide) e
  · exact blk_ne hc h.d1.1 (by decide) e
  · obtain ⟨c', hc'⟩ := own_typed h.d1.2.1 _ e
    exact blk_ne hc hc' (by decide) rfl
  · exact blk_ne hc hc2 (by decide) e
  · exact blk_ne hc h.d2.1 (by decide) e
  · obtain ⟨c', hc'⟩ := own_typed h.d2.2.1 _ e
    exact blk_ne hc hc' (by decide) rfl
theorem UQ.set (h : UQ w B u f1 fd1 f2 fd2 dv1 dv2 s1 s2) {p : Addr} (ht : Typed w p.block 42) (x : Value) : UQ (w.setCell p x) B u f1 fd1 f2 fd2 dv1 dv2 s1 s2 := by
  obtain ⟨n1, n2⟩ := h.typed_ne ht
  refine h.wrote (S := fun j => j = p.block) ((Wrote.refl (fun j => j = p.block) w).setCell (fun _ => rfl) x) n1 (fun e => n2 (e ▸ .inl (.inl rfl))) (fun e => n2 (e ▸ .inr (.inl rfl))) (fun e => n2 (e ▸ .inl (.inr (.inl rfl)))) (fun e => n2 (e ▸ .inr (.inr (.inl rfl)))) (fun k hk e => n2 (e ▸ .inl (.inr (.inr hk)))) (fun k hk e => n2 (e ▸ .inr (.inr (.inr hk))))
theorem pairU_stab (n : Nat) : Stab n (PairU w B u f1 fd1 f2 fd2 dv1 dv2 s1 s2) := by
  rintro W p x ⟨a, b, h, h1, h2⟩ ht hn
  exact ⟨a, b, h.set ht x, h1, h2⟩
theorem uq_stab (n : Nat) : Stab n (fun W => UQ W B u f1 fd1 f2 fd2 dv1 dv2 s1 s2) := fun W p x h ht hn => h.set ht x
theorem beh_of (hb : Below w.heap.size w W) (hlow : ∀ k, Feet2 f1 fd1 f2 fd2 dv1 dv2 k → S ≤ k) (hS : Sents S W ad) (he : ErrIs S ad w' v k) (h : UGo W w' B u f1 fd1 f2 fd2 dv1 dv2 sB sL) :
    Beh S ad (PairU w B u f1 fd1 f2 fd2 dv1 dv2 sB sL) (Feet2 f1 fd1 f2 fd2 dv1 dv2) k W v w' := by
  obtain ⟨a, b, hq, hw, n1, n2⟩ := h
  exact ⟨he, ⟨a, b, hq, (show NewOr w dv1 dv1 from .inl rfl).trans hb.size n1, (show NewOr w dv2 dv2 from .inl rfl).trans hb.size n2⟩, hS.wrote hw hlow, hw⟩
theorem UQ.lt (h : UQ w B u f1 fd1 f2 fd2 dv1 dv2 s1 s2) : ∀ j, Feet2 f1 fd1 f2 fd2 dv1 dv2 j → j < w.heap.size := by
  obtain ⟨c1, hc1⟩ := h.h1.block
  obtain ⟨c2, hc2⟩ := h.h2.block
  rintro j ((e | e | e) | (e | e | e))
  · exact e ▸ lt_of_heap hc1
  · exact e ▸ lt_of_heap h.d1.1
  · exact own_lt h.d1.2.1 _ e
  · exact e ▸ lt_of_heap hc2
  · exact e ▸ lt_of_heap h.d2.1
  · exact own_lt h.d2.2.1 _ e
end
/-- What a step on a file that is open in both leaves. -/
def WovenPost (w : World) (B u f1 fd1 f2 fd2 : Nat) (dv1 dv2 : Value) (sB : St) (D : Ans × St) (e : Ending) (w' : World) : Prop :=
  ∃ cs, e = .returned (.agg cs.toArray) ∧ ∃ dv1' dv2', UQ w' B u f1 fd1 f2 fd2 dv1' dv2' sB D.2 ∧ Wrote (Feet2 f1 fd1 f2 fd2 dv1 dv2) w w' ∧ NewOr w dv1 dv1' ∧ NewOr w dv2 dv2' ∧ AnsN w' (fun k => Feet2 f1 fd1 f2 fd2 dv1' dv2' k ∨ k < w.heap.size) D.1 cs
section
variable (B u f1 fd1 f2 fd2 S kk : Nat) (ad : Nat → Addr) (dv1 dv2 : Value) (s1 s2 : St) (x : Sx) (w : World) (hS : Sents S w ad) (hSw : S ≤ w.heap.size) (hlow : ∀ k, Feet2 f1 fd1 f2 fd2 dv1 dv2 k → S ≤ k) (hU : UQ w B u f1 fd1 f2 fd2 dv1 dv2 s1 s2) (hc : s1.cl = s2.cl) (hr : s1.ro = s2.ro) (hB : B ≤ w.heap.size)
  (hG1 : Good kk s1) (hG2 : Good kk s2) (hkk : kk ≤ 1000000) (hP1 : SpkP s1 x) (hP2 : SpkP s2 x) (hO : OpU x) (hby : BytesIn w x.1.da x.1.dl x.1.dc x.2)
include hS hSw hlow hU hc hr hB hG1 hG2 hkk hP1 hP2 hO hby
theorem woven_post {e : Ending} {w' : World} (hD : (doF s2 x).1.data = []) {n off : Int} (hn : (doF s2 x).1.n = n) (hof : (doF s2 x).1.off = off) (h : e = .returned (ansVal (doF s2 x).1.e n off (.slice none 0 0)) ∧ PairU w B u f1 fd1 f2 fd2 dv1 dv2 (doB s1 x (doF s2 x).1) (doF s2 x).2 w' ∧ Wrote (Feet2 f1 fd1 f2 fd2 dv1 dv2) w w') : WovenPost w B u f1 fd1 f2 fd2 dv1 dv2 (doB s1 x (doF s2 x).1) (doF s2 x) e w' := by
  obtain ⟨rfl, ⟨a, b, hq, h1, h2⟩, hw⟩ := h
  refine ⟨_, rfl, a, b, hq, hw, h1, h2, ?_⟩
  have := ansN_none w' (fun k => Feet2 f1 fd1 f2 fd2 a b k ∨ k < w.heap.size) (doF s2 x).1.e n off none 0
  rw [← hD, ← hn, ← hof] at this
  rw [← hn, ← hof]
  exact this
theorem doB_ok (h12 : x.1.op ≠ 12) (hl : ¬ (x.1.op = 19 ∨ x.1.op = 20)) (he : (doF s2 x).1.e = 0) : doB s1 x (doF s2 x).1 = (doF s1 x).2 := by unfold doB; rw [if_neg hl, if_neg h12, if_pos he]
theorem doB_no (h12 : x.1.op ≠ 12) (he : (doF s2 x).1.e ≠ 0) : doB s1 x (doF s2 x).1 = s1 := by
  unfold doB
  simp [h12, he]
theorem woven_seek (hop : x.1.op = 16) : Calls Tryd.prog 30 #[.pointer (some ⟨u, 0, none⟩), x.1.val] w (WovenPost w B u f1 fd1 f2 fd2 dv1 dv2 (doB s1 x (doF s2 x).1) (doF s2 x)) := by
  have h12 : x.1.op ≠ 12 := by omega
  have hoff : -1152921504606846976 ≤ x.1.off ∧ x.1.off ≤ 1152921504606846976 := by have := hP1.fits (by omega) (by omega); omega
  refine (o30_seek u S ad _ _ (doF s2 x).1.e x.1 w (pairU_stab (w := w) (dv1 := dv1) (dv2 := dv2) (s1 := doB s1 x (doF s2 x).1) (s2 := (doF s2 x).2) (B := B) (u := u) (f1 := f1) (fd1 := fd1) (f2 := f2) (fd2 := fd2) w.heap.size) hSw hU.lt (doF s2 x).1.off hop (fun W hb => ?_)).mono (fun e w' h => woven_post B u f1 fd1 f2 fd2 S kk ad dv1 dv2 s1 s2 x w hS hSw hlow hU hc hr hB hG1 hG2 hkk hP1 hP2 hO hby (doF_nodata h12) (doF_n0 (by omega) (by omega) hO) rfl h)
  have hSW := hS.wrote (F := fun _ => False) (Wrote.of_below hb) (fun _ h => h.elim)
  have hUW := hU.below hb
  have hfl := fl_seek S B f2 fd2 ad s2 x dv2 W hSW hUW.h2 hUW.d2 (HandS.bnd hG2 hkk) hop hoff
  by_cases he : (doF s2 x).1.e = 0
  · rw [doB_ok B u f1 fd1 f2 fd2 S kk ad dv1 dv2 s1 s2 x w hS hSw hlow hU hc hr hB hG1 hG2 hkk hP1 hP2 hO hby h12 (by omega) he]
    refine (u58_ok S B u f1 fd1 f2 fd2 ad dv1 dv2 s1 s2 (doF s1 x).2 (doF s2 x).2 W hSW hlow hUW _ _ (doF s2 x).1.off (hfl.mono ?_) (fun w1 dv2' hq hw hs => (fl_seek S B f1 fd1 ad s1 x dv1 w1 hs hq.h1 hq.d1 (HandS.bnd hG1 hkk) hop hoff).mono ?_)).mono ?_
    · rintro e w' ⟨v, rfl, h1, h2⟩
      rw [h1.zero he]
      exact ⟨rfl, h2⟩
    · rintro e w' ⟨v, rfl, h1, h2⟩
      rw [h1.zero ((doF_e h12 hc hr).trans he)]
      exact ⟨_, rfl, h2⟩
    · rintro e w' ⟨rfl, h⟩
      exact ⟨_, rfl, beh_of hb hlow hSW (.inl ⟨rfl, he⟩) h⟩
  · rw [doB_no B u f1 fd1 f2 fd2 S kk ad dv1 dv2 s1 s2 x w hS hSw hlow hU hc hr hB hG1 hG2 hkk hP1 hP2 hO hby h12 he]
    refine (u58_no S B u f1 fd1 f2 fd2 ad dv1 dv2 s1 s2 (doF s2 x).2 W hSW hlow hUW _ _ (doF s2 x).1.off (doF s2 x).1.e he (doF_e4 h12) (hfl.mono ?_)).mono ?_
    · rintro e w' ⟨v, rfl, h1, h2⟩
      exact ⟨v, rfl, h1, h2⟩
    · rintro e w' ⟨v, rfl, h1, h2⟩
      exact ⟨_, rfl, beh_of hb hlow hSW h1 h2⟩
theorem woven_trunc (hop : x.1.op = 17) : Calls Tryd.prog 30 #[.pointer (some ⟨u, 0, none⟩), x.1.val] w (WovenPost w B u f1 fd1 f2 fd2 dv1 dv2 (doB s1 x (doF s2 x).1) (doF s2 x)) := by
  have h12 : x.1.op ≠ 12 := by omega
  have hoff : x.1.off ≤ 4294967296 := by have := hP1.fits (by omega) (by omega); have := hP1.trunc hop; omega
  refine (o30_trunc u S ad _ _ (doF s2 x).1.e x.1 w (pairU_stab (w := w) (dv1 := dv1) (dv2 := dv2) (s1 := doB s1 x (doF s2 x).1) (s2 := (doF s2 x).2) (B := B) (u := u) (f1 := f1) (fd1 := fd1) (f2 := f2) (fd2 := fd2) w.heap.size) hSw hU.lt hop (fun W hb => ?_)).mono (fun e w' h => woven_post B u f1 fd1 f2 fd2 S kk ad dv1 dv2 s1 s2 x w hS hSw hlow hU hc hr hB hG1 hG2 hkk hP1 hP2 hO hby (doF_nodata h12) (doF_n0 (by omega) (by omega) hO) (doF_off0 (by omega)) h)
  have hSW := hS.wrote (F := fun _ => False) (Wrote.of_below hb) (fun _ h => h.elim)
  have hUW := hU.below hb
  have hfl := fl_trunc S B f2 fd2 ad s2 x dv2 W hSW hUW.h2 hUW.d2 (HandS.bnd hG2 hkk) hop (Nat.le_trans hB hb.size) (Nat.le_trans hSw hb.size) hoff
  by_cases he : (doF s2 x).1.e = 0
  · rw [doB_ok B u f1 fd1 f2 fd2 S kk ad dv1 dv2 s1 s2 x w hS hSw hlow hU hc hr hB hG1 hG2 hkk hP1 hP2 hO hby h12 (by omega) he]
    refine (u59_ok S B u f1 fd1 f2 fd2 ad dv1 dv2 s1 s2 (doF s1 x).2 (doF s2 x).2 W hSW hlow hUW _ 0 (hfl.mono ?_) (fun w1 dv2' hq hw hs => (fl_trunc S B f1 fd1 ad s1 x dv1 w1 hs hq.h1 hq.d1 (HandS.bnd hG1 hkk) hop (Nat.le_trans (Nat.le_trans hB hb.size) hw.size) (Nat.le_trans (Nat.le_trans hSw hb.size) hw.size) hoff).mono ?_)).mono ?_
    · rintro e w' ⟨v, rfl, h1, h2⟩
      rw [h1.zero he]
      exact ⟨rfl, h2⟩
    · rintro e w' ⟨v, rfl, h1, h2⟩
      rw [h1.zero ((doF_e h12 hc hr).trans he)]
      exact ⟨0, rfl, h2⟩
    · rintro e w' ⟨rfl, h⟩
      exact ⟨_, rfl, beh_of hb hlow hSW (.inl ⟨rfl, he⟩) h⟩
  · rw [doB_no B u f1 fd1 f2 fd2 S kk ad dv1 dv2 s1 s2 x w hS hSw hlow hU hc hr hB hG1 hG2 hkk hP1 hP2 hO hby h12 he]
    refine (u59_no S B u f1 fd1 f2 fd2 ad dv1 dv2 s1 s2 (doF s2 x).2 W hSW hlow hUW _ 0 (doF s2 x).1.e he (doF_e4 h12) (hfl.mono ?_)).mono ?_
    · rintro e w' ⟨v, rfl, h1, h2⟩
      exact ⟨v, rfl, h1, h2⟩
    · rintro e w' ⟨v, rfl, h1, h2⟩
      exact ⟨_, rfl, beh_of hb hlow hSW h1 h2⟩
theorem woven_sync (hop : x.1.op = 23) : Calls Tryd.prog 30 #[.pointer (some ⟨u, 0, none⟩), x.1.val] w (WovenPost w B u f1 fd1 f2 fd2 dv1 dv2 (doB s1 x (doF s2 x).1) (doF s2 x)) := by
  have h12 : x.1.op ≠ 12 := by omega
  refine (o30_sync u S ad _ _ (doF s2 x).1.e x.1 w (pairU_stab (w := w) (dv1 := dv1) (dv2 := dv2) (s1 := doB s1 x (doF s2 x).1) (s2 := (doF s2 x).2) (B := B) (u := u) (f1 := f1) (fd1 := fd1) (f2 := f2) (fd2 := fd2) w.heap.size) hSw hU.lt hop (fun W hb => ?_)).mono (fun e w' h => woven_post B u f1 fd1 f2 fd2 S kk ad dv1 dv2 s1 s2 x w hS hSw hlow hU hc hr hB hG1 hG2 hkk hP1 hP2 hO hby (doF_nodata h12) (doF_n0 (by omega) (by omega) hO) (doF_off0 (by omega)) h)
  have hSW := hS.wrote (F := fun _ => False) (Wrote.of_below hb) (fun _ h => h.elim)
  have hUW := hU.below hb
  have hfl := fl_sync S B f2 fd2 ad s2 x dv2 W hSW hUW.h2 hUW.d2 (HandS.bnd hG2 hkk) hop 
  by_cases he : (doF s2 x).1.e = 0
  · rw [doB_ok B u f1 fd1 f2 fd2 S kk ad dv1 dv2 s1 s2 x w hS hSw hlow hU hc hr hB hG1 hG2 hkk hP1 hP2 hO hby h12 (by omega) he]
    refine (u66_ok S B u f1 fd1 f2 fd2 ad dv1 dv2 s1 s2 (doF s1 x).2 (doF s2 x).2 W hSW hlow hUW  0 (hfl.mono ?_) (fun w1 dv2' hq hw hs => (fl_sync S B f1 fd1 ad s1 x dv1 w1 hs hq.h1 hq.d1 (HandS.bnd hG1 hkk) hop ).mono ?_)).mono ?_
    · rintro e w' ⟨v, rfl, h1, h2⟩
      rw [h1.zero he]
      exact ⟨rfl, h2⟩
    · rintro e w' ⟨v, rfl, h1, h2⟩
      rw [h1.zero ((doF_e h12 hc hr).trans he)]
      exact ⟨0, rfl, h2⟩
    · rintro e w' ⟨rfl, h⟩
      exact ⟨_, rfl, beh_of hb hlow hSW (.inl ⟨rfl, he⟩) h⟩
  · rw [doB_no B u f1 fd1 f2 fd2 S kk ad dv1 dv2 s1 s2 x w hS hSw hlow hU hc hr hB hG1 hG2 hkk hP1 hP2 hO hby h12 he]
    refine (u66_no S B u f1 fd1 f2 fd2 ad dv1 dv2 s1 s2 (doF s2 x).2 W hSW hlow hUW  0 (doF s2 x).1.e he (doF_e4 h12) (hfl.mono ?_)).mono ?_
    · rintro e w' ⟨v, rfl, h1, h2⟩
      exact ⟨v, rfl, h1, h2⟩
    · rintro e w' ⟨v, rfl, h1, h2⟩
      exact ⟨_, rfl, beh_of hb hlow hSW h1 h2⟩
theorem woven_write (hop : x.1.op = 14) : Calls Tryd.prog 30 #[.pointer (some ⟨u, 0, none⟩), x.1.val] w (WovenPost w B u f1 fd1 f2 fd2 dv1 dv2 (doB s1 x (doF s2 x).1) (doF s2 x)) := by
  have h12 : x.1.op ≠ 12 := by omega
  have hdl : x.1.dl ≤ 4294967296 := by have := hP1.dl; omega
  refine (o30_write u S ad _ _ (doF s2 x).1.e x.1 w (pairU_stab (w := w) (dv1 := dv1) (dv2 := dv2) (s1 := doB s1 x (doF s2 x).1) (s2 := (doF s2 x).2) (B := B) (u := u) (f1 := f1) (fd1 := fd1) (f2 := f2) (fd2 := fd2) w.heap.size) hSw hU.lt (doF s2 x).1.n x.2 hop hby hdl (fun W A c hb hbA hnA => ?_)).mono (fun e w' h => woven_post B u f1 fd1 f2 fd2 S kk ad dv1 dv2 s1 s2 x w hS hSw hlow hU hc hr hB hG1 hG2 hkk hP1 hP2 hO hby (doF_nodata h12) rfl (doF_off0 (by omega)) h)
  have hSW := hS.wrote (F := fun _ => False) (Wrote.of_below hb) (fun _ h => h.elim)
  have hUW := hU.below hb
  have hfl := fl_write S B f2 fd2 ad s2 x dv2 W hSW hUW.h2 hUW.d2 (HandS.bnd hG2 hkk) hop (fun _ _ => by have := hP2.write hop; omega) (Nat.le_trans hB hb.size) (Nat.le_trans hSw hb.size) A _ c hbA hdl
  by_cases he : (doF s2 x).1.e = 0
  · rw [doB_ok B u f1 fd1 f2 fd2 S kk ad dv1 dv2 s1 s2 x w hS hSw hlow hU hc hr hB hG1 hG2 hkk hP1 hP2 hO hby h12 (by omega) he]
    refine (u56_ok S B u f1 fd1 f2 fd2 ad dv1 dv2 s1 s2 (doF s1 x).2 (doF s2 x).2 W hSW hlow hUW _ _ _ (doF s2 x).1.n (hfl.mono ?_) (fun w1 dv2' hq hw hs => (fl_write S B f1 fd1 ad s1 x dv1 w1 hs hq.h1 hq.d1 (HandS.bnd hG1 hkk) hop (fun _ _ => by have := hP1.write hop; omega) (Nat.le_trans (Nat.le_trans hB hb.size) hw.size) (Nat.le_trans (Nat.le_trans hSw hb.size) hw.size) A _ c (bytes_wrote hbA hw (fun y hy hs => by have := hnA y hy; have := hU.lt _ (.inr hs); omega)) hdl).mono ?_)).mono ?_
    · rintro e w' ⟨v, rfl, h1, h2⟩
      rw [h1.zero he]
      exact ⟨rfl, h2⟩
    · rintro e w' ⟨v, rfl, h1, h2⟩
      rw [h1.zero ((doF_e h12 hc hr).trans he)]
      exact ⟨_, rfl, h2⟩
    · rintro e w' ⟨rfl, h⟩
      exact ⟨_, rfl, beh_of hb hlow hSW (.inl ⟨rfl, he⟩) h⟩
  · rw [doB_no B u f1 fd1 f2 fd2 S kk ad dv1 dv2 s1 s2 x w hS hSw hlow hU hc hr hB hG1 hG2 hkk hP1 hP2 hO hby h12 he]
    refine (u56_no S B u f1 fd1 f2 fd2 ad dv1 dv2 s1 s2 (doF s2 x).2 W hSW hlow hUW _ _ _ (doF s2 x).1.n (doF s2 x).1.e he (doF_e4 h12) (hfl.mono ?_)).mono ?_
    · rintro e w' ⟨v, rfl, h1, h2⟩
      exact ⟨v, rfl, h1, h2⟩
    · rintro e w' ⟨v, rfl, h1, h2⟩
      exact ⟨_, rfl, beh_of hb hlow hSW h1 h2⟩
theorem woven_write_at (hop : x.1.op = 15) : Calls Tryd.prog 30 #[.pointer (some ⟨u, 0, none⟩), x.1.val] w (WovenPost w B u f1 fd1 f2 fd2 dv1 dv2 (doB s1 x (doF s2 x).1) (doF s2 x)) := by
  have h12 : x.1.op ≠ 12 := by omega
  have hdl : x.1.dl ≤ 4294967296 := by have := hP1.dl; omega
  refine (o30_write_at u S ad _ _ (doF s2 x).1.e x.1 w (pairU_stab (w := w) (dv1 := dv1) (dv2 := dv2) (s1 := doB s1 x (doF s2 x).1) (s2 := (doF s2 x).2) (B := B) (u := u) (f1 := f1) (fd1 := fd1) (f2 := f2) (fd2 := fd2) w.heap.size) hSw hU.lt (doF s2 x).1.n x.2 hop hby hdl (fun W A c hb hbA hnA => ?_)).mono (fun e w' h => woven_post B u f1 fd1 f2 fd2 S kk ad dv1 dv2 s1 s2 x w hS hSw hlow hU hc hr hB hG1 hG2 hkk hP1 hP2 hO hby (doF_nodata h12) rfl (doF_off0 (by omega)) h)
  have hSW := hS.wrote (F := fun _ => False) (Wrote.of_below hb) (fun _ h => h.elim)
  have hUW := hU.below hb
  have hfl := fl_write_at S B f2 fd2 ad s2 x dv2 W hSW hUW.h2 hUW.d2 (HandS.bnd hG2 hkk) hop (fun _ _ => by have := hP2.writeAt hop; omega) (Nat.le_trans hB hb.size) (Nat.le_trans hSw hb.size) (hlow f2 (.inr (.inl rfl))) A _ c hbA (fun y hy e => by have := hnA y hy; have := hU.lt f2 (.inr (.inl rfl)); omega) hdl
  by_cases he : (doF s2 x).1.e = 0
  · rw [doB_ok B u f1 fd1 f2 fd2 S kk ad dv1 dv2 s1 s2 x w hS hSw hlow hU hc hr hB hG1 hG2 hkk hP1 hP2 hO hby h12 (by omega) he]
    refine (u57_ok S B u f1 fd1 f2 fd2 ad dv1 dv2 s1 s2 (doF s1 x).2 (doF s2 x).2 W hSW hlow hUW _ _ _ _ (doF s2 x).1.n (hfl.mono ?_) (fun w1 dv2' hq hw hs => (fl_write_at S B f1 fd1 ad s1 x dv1 w1 hs hq.h1 hq.d1 (HandS.bnd hG1 hkk) hop (fun _ _ => by have := hP1.writeAt hop; omega) (Nat.le_trans (Nat.le_trans hB hb.size) hw.size) (Nat.le_trans (Nat.le_trans hSw hb.size) hw.size) (hlow f1 (.inl (.inl rfl))) A _ c (bytes_wrote hbA hw (fun y hy hs => by have := hnA y hy; have := hU.lt _ (.inr hs); omega)) (fun y hy e => by have := hnA y hy; have := hU.lt f1 (.inl (.inl rfl)); omega) hdl).mono ?_)).mono ?_
    · rintro e w' ⟨v, rfl, h1, h2⟩
      rw [h1.zero he]
      exact ⟨rfl, h2⟩
    · rintro e w' ⟨v, rfl, h1, h2⟩
      rw [h1.zero ((doF_e h12 hc hr).trans he)]
      exact ⟨_, rfl, h2⟩
    · rintro e w' ⟨rfl, h⟩
      exact ⟨_, rfl, beh_of hb hlow hSW (.inl ⟨rfl, he⟩) h⟩
  · rw [doB_no B u f1 fd1 f2 fd2 S kk ad dv1 dv2 s1 s2 x w hS hSw hlow hU hc hr hB hG1 hG2 hkk hP1 hP2 hO hby h12 he]
    refine (u57_no S B u f1 fd1 f2 fd2 ad dv1 dv2 s1 s2 (doF s2 x).2 W hSW hlow hUW _ _ _ _ (doF s2 x).1.n (doF s2 x).1.e he (doF_e4 h12) (hfl.mono ?_)).mono ?_
    · rintro e w' ⟨v, rfl, h1, h2⟩
      exact ⟨v, rfl, h1, h2⟩
    · rintro e w' ⟨v, rfl, h1, h2⟩
      exact ⟨_, rfl, beh_of hb hlow hSW h1 h2⟩
theorem woven_close (hop : x.1.op = 18) : Calls Tryd.prog 30 #[.pointer (some ⟨u, 0, none⟩), x.1.val] w (WovenPost w B u f1 fd1 f2 fd2 dv1 dv2 (doB s1 x (doF s2 x).1) (doF s2 x)) := by
  have h12 : x.1.op ≠ 12 := by omega
  have he : ∀ s : St, (doF s x).1.e = 0 := fun s => by unfold doF; simp [hop]
  refine (o30_close u S ad _ _ (doF s2 x).1.e x.1 w (pairU_stab (w := w) (dv1 := dv1) (dv2 := dv2) (s1 := doB s1 x (doF s2 x).1) (s2 := (doF s2 x).2) (B := B) (u := u) (f1 := f1) (fd1 := fd1) (f2 := f2) (fd2 := fd2) w.heap.size) hSw hU.lt hop (fun W hb => ?_)).mono (fun e w' h => woven_post B u f1 fd1 f2 fd2 S kk ad dv1 dv2 s1 s2 x w hS hSw hlow hU hc hr hB hG1 hG2 hkk hP1 hP2 hO hby (doF_nodata h12) (doF_n0 (by omega) (by omega) hO) (doF_off0 (by omega)) h)
  have hSW := hS.wrote (F := fun _ => False) (Wrote.of_below hb) (fun _ h => h.elim)
  have hUW := hU.below hb
  rw [doB_ok B u f1 fd1 f2 fd2 S kk ad dv1 dv2 s1 s2 x w hS hSw hlow hU hc hr hB hG1 hG2 hkk hP1 hP2 hO hby h12 (by omega) (he s2)]
  refine (u60_ok S B u f1 fd1 f2 fd2 ad dv1 dv2 s1 s2 (doF s1 x).2 (doF s2 x).2 W hSW hlow hUW (fun w1 dv1' hq hs => (fl_close S B f2 fd2 ad s2 x dv2 w1 hs hq.h2 hq.d2 (HandS.bnd hG2 hkk) hop).mono ?_) ((fl_close S B f1 fd1 ad s1 x dv1 W hSW hUW.h1 hUW.d1 (HandS.bnd hG1 hkk) hop).mono ?_)).mono ?_
  · rintro e w' ⟨v, rfl, h1, h2⟩
    rw [h1.zero (he s2)]
    exact ⟨rfl, h2⟩
  · rintro e w' ⟨v, rfl, h1, h2⟩
    rw [h1.zero (he s1)]
    exact ⟨rfl, h2⟩
  · rintro e w' ⟨rfl, h⟩
    exact ⟨_, rfl, beh_of hb hlow hSW (.inl ⟨rfl, he s2⟩) h⟩
theorem woven_list (hop : x.1.op = 19) : Calls Tryd.prog 30 #[.pointer (some ⟨u, 0, none⟩), x.1.val] w (WovenPost w B u f1 fd1 f2 fd2 dv1 dv2 (doB s1 x (doF s2 x).1) (doF s2 x)) := by
  have h12 : x.1.op ≠ 12 := by omega
  have hD : doF s2 x = (⟨8, 0, 0, []⟩, s2) := by unfold doF; simp [hop]
  have he : (doF s2 x).1.e ≠ 0 := by rw [hD]; simp
  refine (o30_list u S ad _ _ (doF s2 x).1.e x.1 w (pairU_stab (w := w) (dv1 := dv1) (dv2 := dv2) (s1 := doB s1 x (doF s2 x).1) (s2 := (doF s2 x).2) (B := B) (u := u) (f1 := f1) (fd1 := fd1) (f2 := f2) (fd2 := fd2) w.heap.size) hSw hU.lt hop (fun W hb => ?_)).mono (fun e w' h => woven_post B u f1 fd1 f2 fd2 S kk ad dv1 dv2 s1 s2 x w hS hSw hlow hU hc hr hB hG1 hG2 hkk hP1 hP2 hO hby (doF_nodata h12) (doF_n0 (by omega) (by omega) hO) (doF_off0 (by omega)) h)
  have hSW := hS.wrote (F := fun _ => False) (Wrote.of_below hb) (fun _ h => h.elim)
  have hUW := hU.below hb
  rw [doB_no B u f1 fd1 f2 fd2 S kk ad dv1 dv2 s1 s2 x w hS hSw hlow hU hc hr hB hG1 hG2 hkk hP1 hP2 hO hby h12 he]
  refine (u61_no S B u f1 fd1 f2 fd2 ad dv1 dv2 s1 s2 W hSW hlow hUW _ (doF s2 x).1.e he (fun n' => (fl_list S B f2 fd2 ad s2 x dv2 W hSW hUW.h2 hUW.d2 (HandS.bnd hG2 hkk) (.inl hop) n' (Nat.le_trans hSw hb.size)).mono ?_)).mono ?_
  · rintro e w' ⟨v, rfl, ⟨h1, h2⟩, h3⟩
    exact ⟨v, rfl, h1, h3⟩
  · rintro e w' ⟨v, rfl, h1, h2, h3⟩
    refine ⟨_, rfl, beh_of hb hlow hSW h1 ?_⟩
    rw [hD]
    exact UGo.same hUW h3
theorem woven_names (hop : x.1.op = 20) : Calls Tryd.prog 30 #[.pointer (some ⟨u, 0, none⟩), x.1.val] w (WovenPost w B u f1 fd1 f2 fd2 dv1 dv2 (doB s1 x (doF s2 x).1) (doF s2 x)) := by
  have h12 : x.1.op ≠ 12 := by omega
  have hD : doF s2 x = (⟨8, 0, 0, []⟩, s2) := by unfold doF; simp [hop]
  have he : (doF s2 x).1.e ≠ 0 := by rw [hD]; simp
  refine (o30_names u S ad _ _ (doF s2 x).1.e x.1 w (pairU_stab (w := w) (dv1 := dv1) (dv2 := dv2) (s1 := doB s1 x (doF s2 x).1) (s2 := (doF s2 x).2) (B := B) (u := u) (f1 := f1) (fd1 := fd1) (f2 := f2) (fd2 := fd2) w.heap.size) hSw hU.lt (fun na nc => na = none ∧ nc = 0) hop (fun W hb => ?_)).mono (fun e w' h => ?_)
  · have hSW := hS.wrote (F := fun _ => False) (Wrote.of_below hb) (fun _ h => h.elim)
    have hUW := hU.below hb
    rw [doB_no B u f1 fd1 f2 fd2 S kk ad dv1 dv2 s1 s2 x w hS hSw hlow hU hc hr hB hG1 hG2 hkk hP1 hP2 hO hby h12 he]
    refine (u62_no S B u f1 fd1 f2 fd2 ad dv1 dv2 s1 s2 W hSW hlow hUW _ (doF s2 x).1.e he (fun n' => (fl_list S B f2 fd2 ad s2 x dv2 W hSW hUW.h2 hUW.d2 (HandS.bnd hG2 hkk) (.inr hop) n' (Nat.le_trans hSw hb.size)).mono ?_)).mono ?_
    · rintro e w' ⟨v, rfl, ⟨h1, h2⟩, h3⟩
      exact ⟨v, rfl, h1, h3⟩
    · rintro e w' ⟨v, rfl, h1, h2, h3⟩
      refine ⟨_, none, 0, rfl, ⟨rfl, rfl⟩, beh_of hb hlow hSW h1 ?_⟩
      rw [hD]
      exact UGo.same hUW h3
  · obtain ⟨na, nc, rfl, ⟨rfl, rfl⟩, h⟩ := h
    exact woven_post B u f1 fd1 f2 fd2 S kk ad dv1 dv2 s1 s2 x w hS hSw hlow hU hc hr hB hG1 hG2 hkk hP1 hP2 hO hby (doF_nodata h12) (doF_n0 (by omega) (by omega) hO) (doF_off0 (by omega)) ⟨rfl, h⟩
theorem woven_read (hop : x.1.op = 12) : Calls Tryd.prog 30 #[.pointer (some ⟨u, 0, none⟩), x.1.val] w (WovenPost w B u f1 fd1 f2 fd2 dv1 dv2 (doB s1 x (doF s2 x).1) (doF s2 x)) := by
  obtain ⟨m, hm⟩ : ∃ m : Nat, x.1.n = (m : Int) := ⟨x.1.n.toNat, by have := hP1.fits (by omega) (by omega); omega⟩
  have hm2 : m ≤ 4096 := by have := hP1.fits (by omega) (by omega); omega
  have hat : ∀ {s : St}, SpkP s x → s.cl = false → 0 ≤ s.at_ := fun h hc => by
    rcases h.read hop with e | e
    · rw [hc] at e; cases e
    · exact e
  have hD0 : (doF s2 x).1.n = 0 := doF_n0 (by omega) (by omega) hO
  have hD1 : (doF s2 x).1.off = 0 := doF_off0 (by omega)
  have hlen : (doF s2 x).1.data.length ≤ m := by
    unfold doF
    simp only [hop, show ¬ ((12 : Int) = 18) by decide, show ¬ ((12 : Int) = 23) by decide, show ¬ ((12 : Int) = 19 ∨ (12 : Int) = 20) by decide, if_false, if_true]
    split
    · simp
    · have := rdB_length_le s2 x.1.n
      simp only; omega
  have hfit : ∀ c ∈ (doF s2 x).1.data, 0 ≤ c ∧ c ≤ 255 := by
    unfold doF
    simp only [hop, show ¬ ((12 : Int) = 18) by decide, show ¬ ((12 : Int) = 23) by decide, show ¬ ((12 : Int) = 19 ∨ (12 : Int) = 20) by decide, if_false, if_true]
    split
    · simp
    · intro c hc
      unfold rdB at hc
      split at hc
      · simp at hc
      · unfold readBs at hc
        exact hG2.fit c (List.mem_of_mem_drop (List.mem_of_mem_take hc))
  refine (o30_read u S ad (fun W => UQ W B u f1 fd1 f2 fd2 dv1 dv2 (doB s1 x (doF s2 x).1) (doF s2 x).2) (Feet2 f1 fd1 f2 fd2 dv1 dv2) (doF s2 x).1.e x.1 w (uq_stab w.heap.size) hSw hU.lt m _ (doF s2 x).1.data hop hm (by omega) rfl hlen hfit (fun W g cur hb hgw hcur hg => ?_)).mono ?_
  · have hSW := hS.wrote (F := fun _ => False) (Wrote.of_below hb) (fun _ h => h.elim)
    have hUW := hU.below hb
    have ho : Out W u f1 fd1 f2 fd2 dv1 dv2 g := hUW.out hg (fun k hk => by have := own_lt hU.d1.2.1 k hk; omega) (fun k hk => by have := own_lt hU.d2.2.1 k hk; omega)
    have hfl := fl_read S B f2 fd2 ad s2 x dv2 W hSW hUW.h2 hUW.d2 (HandS.bnd hG2 hkk) hop (hat hP2) g m hm (by omega) cur hcur hg ho.d2
    have hbh : ∀ {v : Value} {w' : World}, ErrIs S ad w' v (doF s2 x).1.e → UQ w' B u f1 fd1 f2 fd2 dv1 dv2 (doB s1 x (doF s2 x).1) (doF s2 x).2 → Wrote (fun k => (k = f1 ∨ k = f2) ∨ k = g) W w' → Beh S ad (fun W => UQ W B u f1 fd1 f2 fd2 dv1 dv2 (doB s1 x (doF s2 x).1) (doF s2 x).2) (fun j => Feet2 f1 fd1 f2 fd2 dv1 dv2 j ∨ j = g) (doF s2 x).1.e W v w' := fun he hq hw => by
      refine ⟨he, hq, hSW.wrote hw ?_, hw.mono ?_⟩
      · rintro j ((e | e) | e)
        · exact e ▸ hlow f1 (.inl (.inl rfl))
        · exact e ▸ hlow f2 (.inr (.inl rfl))
        · omega
      · rintro j _ ((e | e) | e)
        · exact .inl (.inl (.inl e))
        · exact .inl (.inr (.inl e))
        · exact .inr e
    by_cases hcl : s2.cl = true
    · have hcl1 : s1.cl = true := hc.trans hcl
      have eD : doF s2 x = (⟨3, 0, 0, []⟩, s2) := by unfold doF; simp [hop, hcl]
      have eB : doB s1 x (doF s2 x).1 = s1 := by unfold doB; simp [hop, hcl1]
      rw [eB] at hbh ⊢
      refine (u54_no S B u f1 fd1 f2 fd2 ad dv1 dv2 s1 s2 (doF s2 x).2 W hSW hlow hUW g m ho (Nat.le_trans hSw hgw) (doF s2 x).1.data (doF s2 x).1.e (by rw [eD]; simp) (by rw [eD]; simp) (hfl.mono ?_)).mono ?_
      · rintro e w' ⟨v, rfl, h1, h2, h3, h4, h5⟩
        exact ⟨v, rfl, h1, h2, h3, h4, h5⟩
      · rintro e w' ⟨v, rfl, h1, h2, h3, h4⟩
        exact ⟨v, rfl, h3, hbh h1 h2 h4⟩
    · have hcl' : s2.cl = false := by simpa using hcl
      have hcl1 : s1.cl = false := hc.trans hcl'
      have hx2 : doB s1 x (doF s2 x).1 = (doF s1 (⟨16, ⟨#[]⟩, ⟨#[]⟩, 0, 0, 0, none, 0, 0, (doF s2 x).1.data.length, 1, 0⟩, [])).2 := by
        unfold doB
        rw [if_neg (by omega), if_pos hop, if_neg (by simp [hcl1])]
        simp [doF, hcl1, skTo]
      have hfd : (doB s1 x (doF s2 x).1).fd = s1.fd := by
        unfold doB
        rw [if_neg (by omega), if_pos hop, if_neg (by simp [hcl1])]
        rfl
      have hbs : ∀ (w1 : World), UQ w1 B u f1 fd1 f2 fd2 dv1 dv2 s1 (doF s2 x).2 → Sents S w1 ad → Calls Tryd.prog 37 #[.pointer (some ⟨f1, 0, none⟩), .int .i64 ((doF s2 x).1.data.length : Int), .int .i64 1] w1 fun e w' => ∃ n' : Int, e = .returned (.tuple #[.int .i64 n', .nilIface]) ∧ HandS w' f1 (doB s1 x (doF s2 x).1) fd1 ∧ Wrote (fun k => k = f1) w1 w' := fun w1 hq _ => by
        rw [hx2]
        exact fl_seek2 S B f1 fd1 ad s1 (⟨16, ⟨#[]⟩, ⟨#[]⟩, 0, 0, 0, none, 0, 0, (doF s2 x).1.data.length, 1, 0⟩, []) dv1 w1 hq.h1 hq.d1 (HandS.bnd hG1 hkk) hcl1 rfl (by simp only; omega)
      by_cases he : (doF s2 x).1.e = 0
      · refine (u54_ok S B u f1 fd1 f2 fd2 ad dv1 dv2 s1 s2 (doB s1 x (doF s2 x).1) (doF s2 x).2 W hSW hlow hUW g m ho (Nat.le_trans hSw hgw) (doF s2 x).1.data hfd (hfl.mono ?_) hbs).mono ?_
        · rintro e w' ⟨v, rfl, h1, h2, h3, h4, h5⟩
          rw [h1.zero he]
          exact ⟨rfl, h2, h3, h4, h5⟩
        · rintro e w' ⟨rfl, h2, h3, h4⟩
          exact ⟨_, rfl, h3, hbh (.inl ⟨rfl, he⟩) h2 h4⟩
      · by_cases he4 : (doF s2 x).1.e = 4
        · refine (u54_eof S B u f1 fd1 f2 fd2 ad dv1 dv2 s1 s2 (doB s1 x (doF s2 x).1) (doF s2 x).2 W hSW hlow hUW g m ho (Nat.le_trans hSw hgw) (doF s2 x).1.data hfd (hfl.mono ?_) hbs).mono ?_
          · rintro e w' ⟨v, rfl, h1, h2, h3, h4, h5⟩
            have e1 : v = sv ad 1 := by
              rcases h1 with ⟨_, h⟩ | ⟨_, h⟩ | ⟨h, _⟩ | ⟨_, h⟩ | ⟨_, h⟩ | ⟨b, op, nm, b2, _, _, _, _, h⟩
              · omega
              · omega
              · exact h
              · omega
              · omega
              · rcases h with ⟨h, _⟩ | ⟨h, _⟩ <;> omega
            rw [e1]
            exact ⟨rfl, h2, h3, h4, h5⟩
          · rintro e w' ⟨rfl, h2, h3, h4⟩
            exact ⟨_, rfl, h3, hbh (.inr (.inr (.inl ⟨rfl, he4⟩))) h2 h4⟩
        · have hda : (doF s2 x).1.data = [] := by
            revert he he4
            unfold doF
            simp only [hop, hcl', show ¬ ((12 : Int) = 18) by decide, show ¬ ((12 : Int) = 23) by decide, show ¬ ((12 : Int) = 19 ∨ (12 : Int) = 20) by decide, if_false, if_true, Bool.false_eq_true]
            unfold rdE rdB
            split
            · intros; rfl
            · unfold readE readBs
              split
              · intros _ _
                rw [List.drop_eq_nil_of_le (by omega), List.take_nil]
              · split
                · intros _ h; exact absurd rfl h
                · intros h; exact absurd rfl h
          have eB : doB s1 x (doF s2 x).1 = s1 := by
            unfold doB
            rw [if_neg (by omega), if_pos hop, if_neg (by simp [hcl1]), hda]
            simp
          rw [eB] at hbh ⊢
          refine (u54_no S B u f1 fd1 f2 fd2 ad dv1 dv2 s1 s2 (doF s2 x).2 W hSW hlow hUW g m ho (Nat.le_trans hSw hgw) (doF s2 x).1.data (doF s2 x).1.e he he4 (hfl.mono ?_)).mono ?_
          · rintro e w' ⟨v, rfl, h1, h2, h3, h4, h5⟩
            exact ⟨v, rfl, h1, h2, h3, h4, h5⟩
          · rintro e w' ⟨v, rfl, h1, h2, h3, h4⟩
            exact ⟨v, rfl, h3, hbh h1 h2 h4⟩
  · rintro e w' ⟨A, c, rfl, hbA, hnA, hq, hw⟩
    refine ⟨_, rfl, dv1, dv2, hq, hw, .inl rfl, .inl rfl, A, c, none, 0, by rw [hD0, hD1], hbA, fun y hy => ⟨?_, (hnA y hy).2⟩⟩
    have := (hnA y hy).1
    rintro (h | h)
    · have := hU.lt _ h; omega
    · omega
/-- Any step. -/
theorem woven_ok : Calls Tryd.prog 30 #[.pointer (some ⟨u, 0, none⟩), x.1.val] w (WovenPost w B u f1 fd1 f2 fd2 dv1 dv2 (doB s1 x (doF s2 x).1) (doF s2 x)) := by
  have h : x.1.op = 12 ∨ x.1.op = 14 ∨ x.1.op = 15 ∨ x.1.op = 16 ∨ x.1.op = 17 ∨ x.1.op = 18 ∨ x.1.op = 19 ∨ x.1.op = 20 ∨ x.1.op = 23 := by
    obtain ⟨o1, o2, o3, o4, o5⟩ := hO
    omega
  rcases h with h | h | h | h | h | h | h | h | h
  · exact woven_read B u f1 fd1 f2 fd2 S kk ad dv1 dv2 s1 s2 x w hS hSw hlow hU hc hr hB hG1 hG2 hkk hP1 hP2 hO hby h
  · exact woven_write B u f1 fd1 f2 fd2 S kk ad dv1 dv2 s1 s2 x w hS hSw hlow hU hc hr hB hG1 hG2 hkk hP1 hP2 hO hby h
  · exact woven_write_at B u f1 fd1 f2 fd2 S kk ad dv1 dv2 s1 s2 x w hS hSw hlow hU hc hr hB hG1 hG2 hkk hP1 hP2 hO hby h
  · exact woven_seek B u f1 fd1 f2 fd2 S kk ad dv1 dv2 s1 s2 x w hS hSw hlow hU hc hr hB hG1 hG2 hkk hP1 hP2 hO hby h
  · exact woven_trunc B u f1 fd1 f2 fd2 S kk ad dv1 dv2 s1 s2 x w hS hSw hlow hU hc hr hB hG1 hG2 hkk hP1 hP2 hO hby h
  · exact woven_close B u f1 fd1 f2 fd2 S kk ad dv1 dv2 s1 s2 x w hS hSw hlow hU hc hr hB hG1 hG2 hkk hP1 hP2 hO hby h
  · exact woven_list B u f1 fd1 f2 fd2 S kk ad dv1 dv2 s1 s2 x w hS hSw hlow hU hc hr hB hG1 hG2 hkk hP1 hP2 hO hby h
  · exact woven_names B u f1 fd1 f2 fd2 S kk ad dv1 dv2 s1 s2 x w hS hSw hlow hU hc hr hB hG1 hG2 hkk hP1 hP2 hO hby h
  · exact woven_sync B u f1 fd1 f2 fd2 S kk ad dv1 dv2 s1 s2 x w hS hSw hlow hU hc hr hB hG1 hG2 hkk hP1 hP2 hO hby h
end
end Go.Proofs.YtnkhfdnahnphdaaDoor
end
section
namespace Go.Proofs.YtnkhfdnahnphdaaDoor
set_option linter.unusedVariables false
/-- What a step wants that is done. -/
structure SpkW (s : St) (x : Sx) : Prop where
  dl : x.1.dl ≤ 4096
  fits : 12 ≤ x.1.op → x.1.op ≤ 17 → 0 ≤ x.1.n ∧ x.1.n ≤ 4096 ∧ -1099511627776 ≤ x.1.off ∧ x.1.off ≤ 1099511627776
  read : x.1.op = 12 → s.cl = true ∨ 0 ≤ s.at_
  write : x.1.op = 14 → 0 ≤ s.at_ ∧ s.at_ ≤ 4096
  writeAt : x.1.op = 15 → 0 ≤ x.1.off ∧ x.1.off ≤ 4096
  trunc : x.1.op = 17 → x.1.off ≤ 4096
theorem SpkP.weak {s : St} {x : Sx} (h : SpkP s x) : SpkW s x := ⟨h.dl, h.fits, h.read, h.write, h.writeAt, h.trunc⟩
theorem doB_good {k : Nat} {b : St} {x : Sx} {a : Ans} (h : Good k b) (hs : SpkP b x) (hb : x.2.length ≤ 4096) (hf : ∀ c ∈ x.2, 0 ≤ c ∧ c ≤ 255) (ho : OpU x) (ha : a.data.length ≤ 4096) : Good (k + 1) (doB b x a) := by
  have h2 := h.lo
  have h3 := h.hi
  unfold doB
  split
  · exact h.step
  split
  · split
    · exact h.step
    · exact ⟨h.len, by simp only; omega, by simp only; omega, h.fit⟩
  split
  · exact doF_good h hs hb hf ho
  · exact h.step
theorem doF_data {s : St} {x : Sx} (hs : SpkP s x) (ho : OpU x) : (doF s x).1.data.length ≤ 4096 := by
  obtain ⟨o1, o2, o3, o4, o5⟩ := ho
  unfold doF
  repeat' split
  all_goals first
    | (have := rdB_length_le s x.1.n
       have := (hs.fits o1 (by omega)).2.1
       simp only
       omega)
    | simp
end Go.Proofs.YtnkhfdnahnphdaaDoor
end
section
namespace Go.Proofs.YtnkhfdnahnphdaaDoor
set_option linter.unusedVariables false
theorem runP_take (p : St × St) (L : List Sx) (k : Nat) (hk : k < L.length) : runP p (L.take (k + 1)) = stP (runP p (L.take k)) L[k] := by
  rw [List.take_succ_eq_append_getElem hk, runP_snoc]
theorem ansP_snoc (p : St × St) (xs : List Sx) (x : Sx) : ansP p (xs ++ [x]) = ansP p xs ++ [(doF (runP p xs).1 x).1] := by
  induction xs generalizing p with
  | nil => rfl
  | cons y ys ih => simp only [List.cons_append, ansP, ih]; rfl
theorem ansP_take (p : St × St) (L : List Sx) (k : Nat) (hk : k < L.length) : ansP p (L.take (k + 1)) = ansP p (L.take k) ++ [(doF (runP p (L.take k)).1 L[k]).1] := by
  rw [List.take_succ_eq_append_getElem hk, ansP_snoc]
theorem spk_at {p : St × St} {L : List Sx} (h : SpkAll p L) : ∀ (k : Nat) (hk : k < L.length), SpkP (runP p (L.take k)).1 L[k] ∧ SpkP (runP p (L.take k)).2 L[k] ∧ OpU L[k] := by
  induction L generalizing p with
  | nil => intro k hk; simp at hk
  | cons y ys ih =>
    intro k hk
    cases k with
    | zero => exact h.1
    | succ k => exact ih h.2 k (by simpa using hk)
/-- The bytes of the steps are bytes, as many as is said. -/
def FitL (L : List Sx) : Prop := ∀ x ∈ L, x.2.length = x.1.dl ∧ ∀ c ∈ x.2, 0 ≤ c ∧ c ≤ 255
theorem good_at {p : St × St} {L : List Sx} (h : SpkAll p L) (hf : FitL L) (h1 : Good 0 p.1) (h2 : Good 0 p.2) : ∀ (k : Nat), k ≤ L.length → Good k (runP p (L.take k)).1 ∧ Good k (runP p (L.take k)).2 := by
  intro k
  induction k with
  | zero => intro _; exact ⟨h1, h2⟩
  | succ k ih =>
    intro hk
    obtain ⟨g1, g2⟩ := ih (by omega)
    obtain ⟨a1, a2, a3⟩ := spk_at h k (by omega)
    obtain ⟨f1, f2⟩ := hf _ (List.getElem_mem (show k < L.length by omega))
    have hl : L[k].2.length ≤ 4096 := by have := a1.dl; omega
    rw [runP_take _ _ _ (by omega)]
    exact ⟨doF_good g1 a1 hl f2 a3, doB_good g2 a2 hl f2 a3 (doF_data a1 a3)⟩
end Go.Proofs.YtnkhfdnahnphdaaDoor
end
