/- Parts of the proof, merged: UdWalk, UeWalk. -/
import Derived.Test.YtnkhfdnahnphdaaDoorZc07
section
namespace Go.Proofs.YtnkhfdnahnphdaaDoor
open Go.ChangeShapes Go.WideShapes Go.ChangeAt Go.RowKit Go.Rd
open Go.Proofs.YtnkhfdnahnphdaaDoorW.PrintWords Go.Proofs.YtnkhfdnahnphdaaDoorW.PrintLast Go.Proofs.YtnkhfdnahnphdaaDoorW.PrintMore
set_option linter.unusedVariables false
set_option linter.unusedSectionVars false
def wTrunc : ByteArray := ⟨#[116, 114, 117, 110, 99, 97, 116, 101]⟩
def wWrite : ByteArray := ⟨#[119, 114, 105, 116, 101]⟩
def wReaddir : ByteArray := ⟨#[114, 101, 97, 100, 100, 105, 114]⟩
set_option maxRecDepth 100000 in
set_option maxHeartbeats 2000000 in
theorem kind_dir (B : Nat) (ad : Nat → Addr) (w : World) (b : Nat) (path : ByteArray) (ea : Addr) (fr : Nat × Nat) (hS : Sents B w ad) (hb : w.heap[b]? = some (.cells #[.string ⟨#[114, 101, 97, 100, 100, 105, 114]⟩, .string path, .iface 149 (.pointer (some ea))] 127 fr))
    (hea : ∃ c t, w.heap[ea.block]? = some (.cells c t (0, 0))) (hne : ∀ g, g < 11 → ea ≠ ad g) :
    Calls Tryd.prog 46 #[.iface 124 (.pointer (some ⟨b, 0, none⟩))] w fun e w' => e = .returned (.int .i64 8) ∧ w = w' := by
  have c4 := hS.cell 4 (by decide)
  have c5 := hS.cell 5 (by decide)
  have c6 := hS.cell 6 (by decide)
  have c7 := hS.cell 7 (by decide)
  have n4 := err_ne (W := w) (hne 4 (by decide)) hea (hS.blk 4 (by decide))
  have n5 := err_ne (W := w) (hne 5 (by decide)) hea (hS.blk 5 (by decide))
  have n6 := err_ne (W := w) (hne 6 (by decide)) hea (hS.blk 6 (by decide))
  have n7 := err_ne (W := w) (hne 7 (by decide)) hea (hS.blk 7 (by decide))
  have a1 := assert_path w (.pointer (some ⟨b, 0, none⟩))
  have b0 := (cell_of hb 0).trans rfl
  have b2 := (cell_of hb 2).trans rfl
  clear hne
  go_enter Tryd.func46, Tryd.ntmps46
  go_wp2
  go_ret
  exact ⟨rfl, rfl⟩
/-- The value of a laid error. -/
abbrev sv (ad : Nat → Addr) (g : Nat) : Value := .iface 149 (.pointer (some (ad g)))
/-- An error of a kind. -/
def ErrIs (S : Nat) (ad : Nat → Addr) (w : World) (v : Value) (k : Int) : Prop :=
  (v = .nilIface ∧ k = 0) ∨ (v = sv ad 0 ∧ k = 3) ∨ (v = sv ad 1 ∧ k = 4) ∨ (v = sv ad 2 ∧ k = 5) ∨ (v = sv ad 3 ∧ k = 7) ∨
  ∃ b op nm b2, v = .iface 124 (.pointer (some ⟨b, 0, none⟩)) ∧ w.heap[b]? = some (.cells #[.string op, .string nm, .iface 149 (.pointer (some ⟨b2, 0, none⟩))] 127 (0, 0)) ∧ (∃ c t, w.heap[b2]? = some (.cells c t (0, 0))) ∧ S ≤ b2 ∧ ((k = 6 ∧ (op = wTrunc ∨ op = wWrite)) ∨ (k = 8 ∧ op = wReaddir))
section
variable {S : Nat} {ad : Nat → Addr} {w : World} {v : Value} {k : Int}
theorem kind_any (hS : Sents S w ad) (h : ErrIs S ad w v k) : Calls Tryd.prog 46 #[v] w fun e w' => e = .returned (.int .i64 k) ∧ w = w' := by
  rcases h with ⟨rfl, rfl⟩ | ⟨rfl, rfl⟩ | ⟨rfl, rfl⟩ | ⟨rfl, rfl⟩ | ⟨rfl, rfl⟩ | ⟨b, op, nm, b2, rfl, hb, hc, hS2, h⟩
  · exact kind_nil w
  · exact kind_closed S ad w hS
  · exact kind_eof S ad w hS
  · exact kind_unexp S ad w hS
  · exact kind_range S ad w hS
  · have hne : ∀ g, g < 11 → (⟨b2, 0, none⟩ : Addr) ≠ ad g := fun g hg e => by
      have := (hS.low g hg).2
      rw [← e] at this
      simp only at this
      omega
    rcases h with ⟨rfl, h⟩ | ⟨rfl, rfl⟩
    · exact kind_path S ad w b op nm ⟨b2, 0, none⟩ (0, 0) hS hb hc hne h
    · exact kind_dir S ad w b nm ⟨b2, 0, none⟩ (0, 0) hS hb hc hne
theorem path_nil (W : World) (v : Value) : (binOp .eql 96 (.iface 124 v) .nilIface).run Tryd.prog W = .ok (.bool false) W := by kernel_rfl
theorem path_err (W : World) (v u : Value) : (binOp .eql 96 (.iface 124 v) (.iface 149 u)).run Tryd.prog W = .ok (.bool false) W := by kernel_rfl
theorem nil_err (W : World) (u : Value) : (binOp .eql 96 .nilIface (.iface 149 u)).run Tryd.prog W = .ok (.bool false) W := by kernel_rfl
theorem ErrIs.nilB (h : ErrIs S ad w v k) (W : World) : (binOp .eql 96 v .nilIface).run Tryd.prog W = .ok (.bool (decide (k = 0))) W := by
  rcases h with ⟨rfl, rfl⟩ | ⟨rfl, rfl⟩ | ⟨rfl, rfl⟩ | ⟨rfl, rfl⟩ | ⟨rfl, rfl⟩ | ⟨b, op, nm, b2, rfl, hb, hc, hS2, h⟩
  · exact nil_nil W
  · exact err_nil W _
  · exact err_nil W _
  · exact err_nil W _
  · exact err_nil W _
  · rcases h with ⟨rfl, h⟩ | ⟨rfl, rfl⟩
    · exact path_nil W _
    · exact path_nil W _
theorem ErrIs.eofB (h : ErrIs S ad w v k) (hS : Sents S w ad) : (binOp .eql 96 v (sv ad 1)).run Tryd.prog w = .ok (.bool (decide (k = 4))) w := by
  rcases h with ⟨rfl, rfl⟩ | ⟨rfl, rfl⟩ | ⟨rfl, rfl⟩ | ⟨rfl, rfl⟩ | ⟨rfl, rfl⟩ | ⟨b, op, nm, b2, rfl, hb, hc, hS2, h⟩
  · exact nil_err w _
  · exact err_ne (W := w) (hS.ne 0 1 (by decide) (by decide) (by decide)) (hS.blk 0 (by decide)) (hS.blk 1 (by decide))
  · exact err_eq w _
  · exact err_ne (W := w) (hS.ne 2 1 (by decide) (by decide) (by decide)) (hS.blk 2 (by decide)) (hS.blk 1 (by decide))
  · exact err_ne (W := w) (hS.ne 3 1 (by decide) (by decide) (by decide)) (hS.blk 3 (by decide)) (hS.blk 1 (by decide))
  · rcases h with ⟨rfl, h⟩ | ⟨rfl, rfl⟩
    · exact path_err w _ _
    · exact path_err w _ _
/-- Blocks of no error stay out of it. -/
theorem ErrIs.set (h : ErrIs S ad w v k) {p : Addr} {t : TypeId} (ht : Typed w p.block t) (h1 : t ≠ 127) (u : Value) : ErrIs S ad (w.setCell p u) v k := by
  rcases h with h | h | h | h | h | ⟨b, op, nm, b2, rfl, hb, ⟨c, t2, hc⟩, hS2, h⟩
  · exact .inl h
  · exact .inr (.inl h)
  · exact .inr (.inr (.inl h))
  · exact .inr (.inr (.inr (.inl h)))
  · exact .inr (.inr (.inr (.inr (.inl h))))
  · obtain ⟨c', fr, hc'⟩ := ht
    refine .inr (.inr (.inr (.inr (.inr ⟨b, op, nm, b2, rfl, setCell_keeps hb (blk_ne hb hc' h1.symm) u, ?_, hS2, h⟩))))
    by_cases e : b2 = p.block
    · subst e
      obtain ⟨pb, po, ps⟩ := p
      have h' : w.heap[pb]? = some (.cells c t2 (0, 0)) := hc
      refine ⟨if ps.isSome = true then c else c.setIfInBounds po u, t2, ?_⟩
      simp only [World.setCell, Array.getElem?_modify, if_pos, h', Option.map_some]
    · exact ⟨c, t2, (Below.heap_setCell _ _ _ _ e).trans hc⟩
theorem ErrIs.drewN (h : ErrIs S ad w v k) (n : Nat) : ErrIs S ad (w.drewN n) v k := by
  rcases h with h | h | h | h | h | ⟨b, op, nm, b2, rfl, hb, hc, hS2, h⟩
  · exact .inl h
  · exact .inr (.inl h)
  · exact .inr (.inr (.inl h))
  · exact .inr (.inr (.inr (.inl h)))
  · exact .inr (.inr (.inr (.inr (.inl h))))
  · exact .inr (.inr (.inr (.inr (.inr ⟨b, op, nm, b2, rfl, hb, hc, hS2, h⟩))))
end
/-- A handle's state; where it is closed its place does not count. -/
def HandS (w : World) (f : Nat) (s : St) (fd : Nat) : Prop := ∃ a, HandleIs w f ⟨a, 0, s.cl, s.ro, fd⟩ ∧ (s.cl = false → a = s.at_)
theorem HandS.of {w : World} {f fd : Nat} {s : St} (h : HandleIs w f (s.fh fd)) : HandS w f s fd := ⟨s.at_, h, fun _ => rfl⟩
theorem HandS.wrote {w w' : World} {S : Nat → Prop} {f fd : Nat} {s : St} (h : HandS w f s fd) (hw : Wrote S w w') (h1 : ¬ S f) : HandS w' f s fd := by
  obtain ⟨a, h, e⟩ := h
  exact ⟨a, h.wrote hw h1, e⟩
theorem HandS.below {w w' : World} {f fd : Nat} {s : St} (h : HandS w f s fd) (hw : Below w.heap.size w w') : HandS w' f s fd := h.wrote (Wrote.of_below (S := fun _ => False) hw) id
/-- From w to wx the file's data and the handle were written, and nothing else that was there. -/
def LaidH (w wx : World) (f B fd : Nat) (s : St) (dv : Value) : Prop :=
  ∃ dv1, HandS wx f s fd ∧ DataIs wx B fd dv1 s.fd ∧ Wrote (Feet f fd dv) w wx ∧ (dv1.ownBlock = dv.ownBlock ∨ ∃ k, dv1.ownBlock = some k ∧ w.heap.size ≤ k)
theorem LaidH.of {w wx : World} {f B fd : Nat} {s : St} {dv : Value} (h : Laid w wx f B fd (s.fh fd) dv s.fd) : LaidH w wx f B fd s dv := by
  obtain ⟨dv1, h1, h2, h3, h4⟩ := h
  exact ⟨dv1, .of h1, h2, h3, h4⟩
theorem LaidH.same {w wx : World} {f B fd : Nat} {s : St} {dv : Value} (hH : HandS w f s fd) (hD : DataIs w B fd dv s.fd) (hb : Below w.heap.size w wx) : LaidH w wx f B fd s dv :=
  ⟨dv, hH.below hb, hD.below hb, Wrote.of_below hb, .inl rfl⟩
theorem LaidH.drew {w wx : World} {f B fd : Nat} {s : St} {dv : Value} (hH : HandS w f s fd) (hD : DataIs w B fd dv s.fd) (hb : Drew w wx) : LaidH w wx f B fd s dv := by
  obtain ⟨n, rfl⟩ := hb
  exact .same hH hD (pw_below_drewN (Below.refl _ _) n)
/-- What a method leaves. -/
def FlPost (S : Nat) (ad : Nat → Addr) (w : World) (f B fd : Nat) (dv : Value) (a : Ans × St) (v : Value) (w' : World) : Prop := ErrIs S ad w' v a.1.e ∧ LaidH w w' f B fd a.2 dv
/-- The bounds of a method's call. -/
structure FlB (s : St) : Prop where
  len : s.bs.length ≤ 4294967296
  lo : -1152921504606846976 ≤ s.at_
  hi : s.at_ ≤ 1152921504606846976
section
variable (S B f fd : Nat) (ad : Nat → Addr) (s : St) (x : Sx) (dv : Value) (w : World) (hS : Sents S w ad) (hH : HandS w f s fd) (hD : DataIs w B fd dv s.fd) (hb : FlB s)
include hS hH hD hb
theorem fl_seek (ho : x.1.op = 16) (hoff : -1152921504606846976 ≤ x.1.off ∧ x.1.off ≤ 1152921504606846976) :
    Calls Tryd.prog 37 #[.pointer (some ⟨f, 0, none⟩), .int .i64 x.1.off, .int .i64 x.1.wh] w fun e w' => ∃ v, e = .returned (.tuple #[.int .i64 (doF s x).1.off, v]) ∧ FlPost S ad w f B fd dv (doF s x) v w' := by
  obtain ⟨a, hH1, ha⟩ := hH
  cases hc : s.cl with
  | true =>
    rw [hc] at hH1
    have e : doF s x = (⟨3, 0, 0, []⟩, s) := by unfold doF; simp [ho, hc]
    rw [e]
    refine (seek_closed f fd S a 0 s.ro ad w _ _ hS hH1).mono ?_
    rintro e w' ⟨rfl, hd⟩
    exact ⟨_, rfl, .inr (.inl ⟨rfl, rfl⟩), .drew ⟨a, by rw [hc]; exact hH1, ha⟩ hD hd⟩
  | false =>
    obtain rfl := ha hc
    have e : doF s x = (⟨0, 0, skTo s x.1.off x.1.wh, []⟩, { s with at_ := skTo s x.1.off x.1.wh }) := by unfold doF; simp [ho, hc]
    rw [e]
    refine (seek_any f B dv _ s.fd x.1.off x.1.wh w hH1 hD hc ⟨hb.lo, hb.hi⟩ hoff (by have := hb.len; show s.bs.length ≤ _; omega)).mono ?_
    rintro e w' ⟨rfl, h1, h2⟩
    refine ⟨_, rfl, .inl ⟨rfl, rfl⟩, LaidH.of ⟨dv, h1, hD.wrote h2 (fun e => fd_ne hD hH1 e) (fun k hk e => row_fh hD hH1 k hk e), h2.mono (fun _ _ h => .inl h), .inl rfl⟩⟩
theorem fl_trunc (ho : x.1.op = 17) (hB : B ≤ w.heap.size) (hSB : S ≤ w.heap.size) (ho2 : x.1.off ≤ 4294967296) :
    Calls Tryd.prog 38 #[.pointer (some ⟨f, 0, none⟩), .int .i64 x.1.off] w fun e w' => ∃ v, e = .returned v ∧ FlPost S ad w f B fd dv (doF s x) v w' := by
  obtain ⟨a, hH1, ha⟩ := hH
  cases hc : s.cl with
  | true =>
    rw [hc] at hH1
    have e : doF s x = (⟨3, 0, 0, []⟩, s) := by unfold doF; simp [ho, hc]
    rw [e]
    refine (trunc_closed f fd S a 0 s.ro ad w _ hS hH1).mono ?_
    rintro e w' ⟨rfl, rfl⟩
    exact ⟨_, rfl, .inr (.inl ⟨rfl, rfl⟩), .same ⟨a, by rw [hc]; exact hH1, ha⟩ hD (Below.refl _ _)⟩
  | false =>
    have hHS : HandS w f s fd := ⟨a, hH1, ha⟩
    rw [hc] at hH1
    cases hr : s.ro with
    | true =>
      rw [hr] at hH1
      have e : doF s x = (⟨6, 0, 0, []⟩, s) := by unfold doF; simp [ho, hc, hr]
      rw [e]
      refine (trunc_ro f B fd _ a 0 dv s.fd w hH1 hD).mono ?_
      rintro e w' ⟨b, b2, rfl, h1, h2, h3, h4⟩
      exact ⟨_, rfl, .inr (.inr (.inr (.inr (.inr ⟨b, _, _, b2, rfl, h1, h2, Nat.le_trans hSB h3, .inl ⟨rfl, .inl rfl⟩⟩)))), .same hHS hD h4⟩
    | false =>
      rw [hr] at hH1
      by_cases hn : x.1.off < 0
      · have e : doF s x = (⟨7, 0, 0, []⟩, s) := by unfold doF; simp [ho, hc, hr, hn]
        rw [e]
        refine (trunc_neg f S fd _ a 0 ad w hS hH1 hn).mono ?_
        rintro e w' ⟨rfl, rfl⟩
        exact ⟨_, rfl, .inr (.inr (.inr (.inr (.inl ⟨rfl, rfl⟩)))), .same hHS hD (Below.refl _ _)⟩
      · have e : doF s x = (⟨0, 0, 0, []⟩, { s with bs := cutTo s.bs x.1.off.toNat }) := by unfold doF; simp [ho, hc, hr, hn]
        rw [e]
        obtain ⟨k, hk⟩ : ∃ k : Nat, x.1.off = (k : Int) := ⟨x.1.off.toNat, by omega⟩
        rw [hk] at ho2 ⊢
        refine (trunc_any f B fd k a 0 dv s.fd w hH1 hD (by omega) hB).mono ?_
        rintro e w' ⟨rfl, hL⟩
        obtain rfl := ha hc
        refine ⟨_, rfl, .inl ⟨rfl, rfl⟩, LaidH.of ?_⟩
        simpa [St.fh, St.fd, hc, hr] using hL
theorem fl_write (ho : x.1.op = 14) (hw : s.cl = false → s.ro = false → 0 ≤ s.at_ ∧ s.at_ ≤ 4294967296) (hB : B ≤ w.heap.size) (hSB : S ≤ w.heap.size) (A : Option Addr) (m c : Nat) (hby : BytesIn w A m c x.2) (hm : m ≤ 4294967296) :
    Calls Tryd.prog 35 #[.pointer (some ⟨f, 0, none⟩), .slice A m c] w fun e w' => ∃ v, e = .returned (.tuple #[.int .i64 (doF s x).1.n, v]) ∧ FlPost S ad w f B fd dv (doF s x) v w' := by
  obtain ⟨a, hH1, ha⟩ := hH
  cases hc : s.cl with
  | true =>
    rw [hc] at hH1
    have e : doF s x = (⟨3, 0, 0, []⟩, s) := by unfold doF; simp [ho, hc]
    rw [e]
    refine (write_closed f fd S a 0 s.ro ad w A m c hS hH1).mono ?_
    rintro e w' ⟨rfl, hd⟩
    exact ⟨_, rfl, .inr (.inl ⟨rfl, rfl⟩), .drew ⟨a, by rw [hc]; exact hH1, ha⟩ hD hd⟩
  | false =>
    have hHS : HandS w f s fd := ⟨a, hH1, ha⟩
    rw [hc] at hH1
    cases hr : s.ro with
    | true =>
      rw [hr] at hH1
      have e : doF s x = (⟨6, 0, 0, []⟩, s) := by unfold doF; simp [ho, hc, hr]
      rw [e]
      refine (write_ro f B fd a 0 A m c dv s.fd w hH1 hD).mono ?_
      rintro e w' ⟨b, rfl, ⟨b2, h1, h2, h3⟩, h4⟩
      exact ⟨_, rfl, .inr (.inr (.inr (.inr (.inr ⟨b, _, _, b2, rfl, h1, h2, Nat.le_trans hSB h3, .inl ⟨rfl, .inr rfl⟩⟩)))), .same hHS hD h4⟩
    | false =>
      rw [hr] at hH1
      obtain rfl := ha hc
      have e : doF s x = (⟨0, x.2.length, 0, []⟩, { s with bs := lay s.bs s.at_.toNat x.2, at_ := s.at_ + x.2.length }) := by unfold doF; simp [ho, hc, hr]
      rw [e]
      obtain ⟨w1, w2⟩ := hw hc hr
      obtain ⟨k, hk⟩ : ∃ k : Nat, s.at_ = (k : Int) := ⟨s.at_.toNat, by omega⟩
      rw [hk] at hH1 ⊢
      refine (write_all f B fd k 0 dv s.fd A m c x.2 w hH1 hD hby (by omega) hm (by have := hb.len; show s.bs.length ≤ _; omega) hB).mono ?_
      rintro e w' ⟨rfl, hL⟩
      rw [hby.len]
      refine ⟨_, rfl, .inl ⟨rfl, rfl⟩, LaidH.of ?_⟩
      simpa [St.fh, St.fd, hc, hr] using hL
theorem fl_write_at (ho : x.1.op = 15) (hw : s.cl = false → s.ro = false → 0 ≤ x.1.off ∧ x.1.off ≤ 4294967296) (hB : B ≤ w.heap.size) (hSB : S ≤ w.heap.size) (hSf : S ≤ f) (A : Option Addr) (m c : Nat) (hby : BytesIn w A m c x.2) (hbf : ∀ y, A = some y → y.block ≠ f) (hm : m ≤ 4294967296) :
    Calls Tryd.prog 36 #[.pointer (some ⟨f, 0, none⟩), .slice A m c, .int .i64 x.1.off] w fun e w' => ∃ v, e = .returned (.tuple #[.int .i64 (doF s x).1.n, v]) ∧ FlPost S ad w f B fd dv (doF s x) v w' := by
  obtain ⟨a, hH1, ha⟩ := hH
  cases hc : s.cl with
  | true =>
    rw [hc] at hH1
    have e : doF s x = (⟨3, 0, 0, []⟩, s) := by unfold doF; simp [ho, hc]
    rw [e]
    refine (write_at_closed f fd S a 0 x.1.off s.ro ad A m c w hS hSf hH1).mono ?_
    rintro e w' ⟨rfl, h1, h2⟩
    refine ⟨_, rfl, .inr (.inl ⟨rfl, rfl⟩), dv, ⟨_, by rw [hc]; exact h1, fun h => by rw [hc] at h; cases h⟩, hD.wrote h2 (fun e => fd_ne hD hH1 e) (fun k hk e => row_fh hD hH1 k hk e), h2.mono (fun _ _ h => .inl h), .inl rfl⟩
  | false =>
    have hHS : HandS w f s fd := ⟨a, hH1, ha⟩
    rw [hc] at hH1
    cases hr : s.ro with
    | true =>
      rw [hr] at hH1
      have e : doF s x = (⟨6, 0, 0, []⟩, { s with at_ := x.1.off }) := by unfold doF; simp [ho, hc, hr]
      rw [e]
      refine (write_at_ro f B fd a 0 x.1.off A m c dv s.fd w hH1 hD).mono ?_
      rintro e w' ⟨b, rfl, ⟨b2, h1, h2, h3⟩, h4, h5⟩
      refine ⟨_, rfl, .inr (.inr (.inr (.inr (.inr ⟨b, _, _, b2, rfl, h1, h2, Nat.le_trans hSB h3, .inl ⟨rfl, .inr rfl⟩⟩)))), LaidH.of ⟨dv, by simpa [St.fh, hc, hr] using h4, hD.wrote h5 (fun e => fd_ne hD hH1 e) (fun k hk e => row_fh hD hH1 k hk e), h5.mono (fun _ _ h => .inl h), .inl rfl⟩⟩
    | false =>
      rw [hr] at hH1
      have e : doF s x = (⟨0, x.2.length, 0, []⟩, { s with bs := lay s.bs x.1.off.toNat x.2, at_ := x.1.off + x.2.length }) := by unfold doF; simp [ho, hc, hr]
      rw [e]
      obtain ⟨w1, w2⟩ := hw hc hr
      obtain ⟨k, hk⟩ : ∃ k : Nat, x.1.off = (k : Int) := ⟨x.1.off.toNat, by omega⟩
      rw [hk]
      refine (write_at_all f B fd k a 0 dv s.fd A m c x.2 w hH1 hD hby hbf (by omega) hm (by have := hb.len; show s.bs.length ≤ _; omega) hB).mono ?_
      rintro e w' ⟨rfl, hL⟩
      rw [hby.len]
      refine ⟨_, rfl, .inl ⟨rfl, rfl⟩, LaidH.of ?_⟩
      simpa [St.fh, St.fd, hc, hr] using hL
theorem fl_close (ho : x.1.op = 18) :
    Calls Tryd.prog 39 #[.pointer (some ⟨f, 0, none⟩)] w fun e w' => ∃ v, e = .returned v ∧ FlPost S ad w f B fd dv (doF s x) v w' := by
  obtain ⟨a, hH1, ha⟩ := hH
  have e : doF s x = (⟨0, 0, 0, []⟩, { s with cl := true }) := by unfold doF; simp [ho]
  rw [e]
  cases hr : s.ro with
  | true =>
    rw [hr] at hH1
    refine (close_file_ro f B fd a 0 s.cl dv s.fd w hH1 hD).mono ?_
    rintro e w' ⟨rfl, dv1, h1, h2, h3, h4⟩
    exact ⟨_, rfl, .inl ⟨rfl, rfl⟩, dv1, ⟨a, h1, fun h => by cases h⟩, h2, h3, h4⟩
  | false =>
    rw [hr] at hH1
    refine (close_file_rw f B fd a 0 s.cl dv s.fd w hH1 hD).mono ?_
    rintro e w' ⟨rfl, dv1, h1, h2, h3, h4⟩
    exact ⟨_, rfl, .inl ⟨rfl, rfl⟩, dv1, ⟨a, h1, fun h => by cases h⟩, h2, h3, h4⟩
theorem fl_sync (ho : x.1.op = 23) :
    Calls Tryd.prog 45 #[.pointer (some ⟨f, 0, none⟩)] w fun e w' => ∃ v, e = .returned v ∧ FlPost S ad w f B fd dv (doF s x) v w' := by
  have e : doF s x = (⟨0, 0, 0, []⟩, s) := by unfold doF; simp [ho]
  rw [e]
  refine (sync_file f w).mono ?_
  rintro e w' ⟨rfl, rfl⟩
  exact ⟨_, rfl, .inl ⟨rfl, rfl⟩, .same hH hD (Below.refl _ _)⟩
theorem fl_list (ho : x.1.op = 19 ∨ x.1.op = 20) (n : Int) (hSB : S ≤ w.heap.size) :
    Calls Tryd.prog 40 #[.pointer (some ⟨f, 0, none⟩), .int .i64 n] w fun e w' => ∃ v, e = .returned (.tuple #[.slice none 0 0, v]) ∧ FlPost S ad w f B fd dv (doF s x) v w' ∧ Below w.heap.size w w' := by
  have e : doF s x = (⟨8, 0, 0, []⟩, s) := by unfold doF; rcases ho with h | h <;> simp [h]
  rw [e]
  obtain ⟨a, hH1, ha⟩ := hH
  refine (list_refused f B fd _ n dv s.fd w hH1 rfl hD rfl).mono ?_
  rintro e w' ⟨b, b2, rfl, h1, h2, h3, h4⟩
  exact ⟨_, rfl, ⟨.inr (.inr (.inr (.inr (.inr ⟨b, _, _, b2, rfl, h1, h2, Nat.le_trans hSB h3, .inr ⟨rfl, rfl⟩⟩)))), .same ⟨a, hH1, ha⟩ hD h4⟩, h4⟩
/-- Reading into a block of bytes. -/
theorem fl_read (ho : x.1.op = 12) (hat : s.cl = false → 0 ≤ s.at_) (g m : Nat) (hn : x.1.n = (m : Int)) (hm : m ≤ 4294967296) (cur : Array Value) (hc : cur.size = m) (hg : w.heap[g]? = some (.cells cur 5 (0, 0))) (hgr : ∀ k, dv.ownBlock = some k → k ≠ g) :
    Calls Tryd.prog 33 #[.pointer (some ⟨f, 0, none⟩), .slice (some ⟨g, 0, none⟩) m m] w fun e w' => ∃ v, e = .returned (.tuple #[.int .i64 ((doF s x).1.data.length : Int), v]) ∧ ErrIs S ad w' v (doF s x).1.e ∧ HandS w' f (doF s x).2 fd ∧ DataIs w' B fd dv (doF s x).2.fd ∧ GotIn w' g m (doF s x).1.data ∧ Wrote (fun k => k = f ∨ k = g) w w' := by
  obtain ⟨a, hH1, ha⟩ := hH
  have hgf : g ≠ f := blk_ne hg hH1 (by decide)
  have hgd : g ≠ fd := blk_ne hg hD.1 (by decide)
  cases hcl : s.cl with
  | true =>
    rw [hcl] at hH1
    have e : doF s x = (⟨3, 0, 0, []⟩, s) := by unfold doF; simp [ho, hcl]
    rw [e]
    refine (read_closed f fd S a 0 s.ro ad w _ m m hS hH1).mono ?_
    rintro e w' ⟨rfl, n, rfl⟩
    exact ⟨_, rfl, .inr (.inl ⟨rfl, rfl⟩), ⟨a, by rw [hcl]; exact hH1.drewN n, ha⟩, hD.drewN n, ⟨cur, hg, hc, fun j u hu => by simp at hu⟩, (Wrote.refl _ _).drewN n⟩
  | false =>
    obtain rfl := ha hcl
    rw [hcl] at hH1
    have hat := hat hcl
    have e : doF s x = (⟨readE s.bs s.at_.toNat m, 0, 0, readBs s.bs s.at_.toNat m⟩, { s with at_ := s.at_ + (readBs s.bs s.at_.toNat m).length }) := by
      unfold doF rdE rdB
      simp [ho, hcl, hn, show ¬ s.at_ < 0 by omega]
    rw [e]
    obtain ⟨k, hk⟩ : ∃ k : Nat, s.at_ = (k : Int) := ⟨s.at_.toNat, by omega⟩
    have hlen := hb.len
    have hhi := hb.hi
    rw [hk, Int.toNat_natCast]
    rw [hk] at hH1
    by_cases h1 : s.bs.length < k
    · have e0 : readBs s.bs k m = [] := by unfold readBs; rw [List.drop_eq_nil_of_le (by omega)]; simp
      rw [e0]
      unfold readE
      rw [if_pos h1]
      refine (read_beyond _ m m f B S fd k 0 s.ro ad dv _ w hS hH1 hD (by omega) h1 (by omega)).mono ?_
      rintro e w' ⟨rfl, n, rfl⟩
      refine ⟨_, rfl, .inr (.inr (.inr (.inl ⟨rfl, rfl⟩))), .of ?_, hD.drewN n, ⟨cur, hg, hc, fun j u hu => by simp at hu⟩, (Wrote.refl _ _).drewN n⟩
      simpa [St.fh, hcl] using hH1.drewN n
    · by_cases h0 : 0 < m ∧ k = s.bs.length
      · obtain ⟨h0, rfl⟩ := h0
        have e0 : readBs s.bs s.bs.length m = [] := by unfold readBs; rw [List.drop_eq_nil_of_le (by omega)]; simp
        rw [e0]
        unfold readE
        rw [if_neg h1, if_pos ⟨h0, rfl⟩]
        refine (read_end _ m m f B S fd 0 s.ro ad dv s.fd w hS hH1 hD h0 (by omega) hlen).mono ?_
        rintro e w' ⟨rfl, n, rfl⟩
        refine ⟨_, rfl, .inr (.inr (.inl ⟨rfl, rfl⟩)), .of ?_, hD.drewN n, ⟨cur, hg, hc, fun j u hu => by simp at hu⟩, (Wrote.refl _ _).drewN n⟩
        simpa [St.fh, hcl] using hH1.drewN n
      · unfold readE
        rw [if_neg h1, if_neg h0]
        have hrl : (readBs s.bs k m).length = min m (s.bs.length - k) := by simp [readBs]
        refine (read_some g 0 m m cur 5 f B fd k (readBs s.bs k m).length 0 s.ro dv _ w hg hgf hgd hgr (by omega) hH1 hD (by show k ≤ s.bs.length; omega) (by show m = 0 ∨ k < s.bs.length; omega) hrl (by omega) hlen).mono ?_
        rintro e w' ⟨rfl, h8, h9, h10, h11⟩
        refine ⟨_, rfl, .inl ⟨rfl, rfl⟩, .of (by simpa [St.fh, hcl] using h8), h9, ⟨_, h10, ?_, ?_⟩, h11⟩
        · have hs : ((List.take (readBs s.bs k m).length (List.drop k s.bs)).map (Value.int IntKind.u8)).length ≤ cur.toList.length := by simp; omega
          show (splice cur.toList 0 _).length = m
          rw [length_splice _ _ _ (by rw [Nat.zero_add]; exact hs)]
          simpa using hc
        · have e1 : (List.drop k s.bs).take (readBs s.bs k m).length = readBs s.bs k m := by
            rw [hrl]; unfold readBs
            rw [← List.length_drop, ← List.take_eq_take_min]
          show ∀ (j : Nat) (u : Value), _ → (splice cur.toList 0 (((List.drop k s.bs).take (readBs s.bs k m).length).map _)).toArray[j]? = some u
          rw [e1]
          intro j u hu
          have hj : j < ((readBs s.bs k m).map (Value.int .u8)).length := (List.getElem?_eq_some_iff.1 hu).1
          simp only [splice, List.take_zero, List.nil_append, List.getElem?_toArray]
          rw [List.getElem?_append_left hj]
          exact hu
end
end Go.Proofs.YtnkhfdnahnphdaaDoor
end
section
namespace Go.Proofs.YtnkhfdnahnphdaaDoor
open Go.ChangeShapes Go.WideShapes Go.ChangeAt Go.RowKit Go.Rd
open Go.Proofs.YtnkhfdnahnphdaaDoorW.PrintWords Go.Proofs.YtnkhfdnahnphdaaDoorW.PrintLast Go.Proofs.YtnkhfdnahnphdaaDoorW.PrintMore
set_option linter.unusedVariables false
set_option linter.unusedSectionVars false
abbrev tUF : TypeId := 83
/-- A file that is open in both: u's block, the base's file (1) and the layer's (2). -/
structure UQ (w : World) (B u f1 fd1 f2 fd2 : Nat) (dv1 dv2 : Value) (s1 s2 : St) : Prop where
  uf : w.heap[u]? = some (.cells #[.pointer (some ⟨f1, 0, none⟩), .pointer (some ⟨f2, 0, none⟩), .int .i64 0, .slice none 0 0] tUF (0, 0))
  h1 : HandS w f1 s1 fd1
  d1 : DataIs w B fd1 dv1 s1.fd
  h2 : HandS w f2 s2 fd2
  d2 : DataIs w B fd2 dv2 s2.fd
  ne : f1 ≠ f2
  nd : fd1 ≠ fd2
  apart : ∀ k, dv1.ownBlock = some k → dv2.ownBlock ≠ some k
def Feet2 (f1 fd1 f2 fd2 : Nat) (dv1 dv2 : Value) (k : Nat) : Prop := Feet f1 fd1 dv1 k ∨ Feet f2 fd2 dv2 k
def NewOr (w : World) (dv dv' : Value) : Prop := dv'.ownBlock = dv.ownBlock ∨ ∃ k, dv'.ownBlock = some k ∧ w.heap.size ≤ k
/-- A step on both. -/
def UGo (w w' : World) (B u f1 fd1 f2 fd2 : Nat) (dv1 dv2 : Value) (s1 s2 : St) : Prop :=
  ∃ dv1' dv2', UQ w' B u f1 fd1 f2 fd2 dv1' dv2' s1 s2 ∧ Wrote (Feet2 f1 fd1 f2 fd2 dv1 dv2) w w' ∧ NewOr w dv1 dv1' ∧ NewOr w dv2 dv2'
theorem HandS.block {w : World} {f fd : Nat} {s : St} (h : HandS w f s fd) : ∃ c, w.heap[f]? = some (.cells c tFH (0, 0)) := by
  obtain ⟨a, h, _⟩ := h
  exact ⟨_, h⟩
theorem hand_of_feet {w : World} {B f f' fd fd' : Nat} {dv' : Value} {s s' : St} (hH : HandS w f s fd) (hH' : HandS w f' s' fd') (hD' : DataIs w B fd' dv' s'.fd) (hne : f ≠ f') : ¬ Feet f' fd' dv' f := by
  obtain ⟨c, hc⟩ := hH.block
  rintro (e | e | e)
  · exact hne e
  · exact blk_ne hc hD'.1 (by decide) e
  · obtain ⟨c', hc'⟩ := own_typed hD'.2.1 _ e
    exact blk_ne hc hc' (by decide) rfl
theorem data_of_feet {w : World} {B fd fd' : Nat} {dv dv' : Value} {s s' : St} {f' : Nat} (hD : DataIs w B fd dv s.fd) (hH' : HandS w f' s' fd') (hD' : DataIs w B fd' dv' s'.fd) (hne : fd ≠ fd') : ¬ Feet f' fd' dv' fd := by
  obtain ⟨c, hc⟩ := hH'.block
  rintro (e | e | e)
  · exact blk_ne hD.1 hc (by decide) e
  · exact hne e
  · obtain ⟨c', hc'⟩ := own_typed hD'.2.1 _ e
    exact blk_ne hD.1 hc' (by decide) rfl
theorem row_of_feet {w : World} {B fd fd' f' : Nat} {dv dv' : Value} {s s' : St} (hD : DataIs w B fd dv s.fd) (hH' : HandS w f' s' fd') (hD' : DataIs w B fd' dv' s'.fd) (hap : ∀ k, dv.ownBlock = some k → dv'.ownBlock ≠ some k) (k : Nat) (hk : dv.ownBlock = some k) : ¬ Feet f' fd' dv' k := by
  obtain ⟨c0, hc0⟩ := own_typed hD.2.1 _ hk
  obtain ⟨c, hc⟩ := hH'.block
  rintro (e | e | e)
  · exact blk_ne hc0 hc (by decide) e
  · exact blk_ne hc0 hD'.1 (by decide) e
  · exact hap k hk e
theorem uf_of_feet {w : World} {B u fd' f' : Nat} {c : Array Value} {dv' : Value} {s' : St} (hu : w.heap[u]? = some (.cells c tUF (0, 0))) (hH' : HandS w f' s' fd') (hD' : DataIs w B fd' dv' s'.fd) : ¬ Feet f' fd' dv' u := by
  obtain ⟨c, hc⟩ := hH'.block
  rintro (e | e | e)
  · exact blk_ne hu hc (by decide) e
  · exact blk_ne hu hD'.1 (by decide) e
  · obtain ⟨c', hc'⟩ := own_typed hD'.2.1 _ e
    exact blk_ne hu hc' (by decide) rfl
section
variable {w w' : World} {B u f1 fd1 f2 fd2 : Nat} {dv1 dv2 dv' : Value} {s1 s2 s' : St}
theorem UQ.layered' (h : UQ w B u f1 fd1 f2 fd2 dv1 dv2 s1 s2) (hH : HandS w' f2 s' fd2) (hD : DataIs w' B fd2 dv' s'.fd) (hw : Wrote (Feet f2 fd2 dv2) w w') (hn : NewOr w dv2 dv') : UQ w' B u f1 fd1 f2 fd2 dv1 dv' s1 s' := by
  refine ⟨(hw.block _ (lt_of_heap h.uf) (uf_of_feet h.uf h.h2 h.d2)).trans h.uf, h.h1.wrote hw (hand_of_feet h.h1 h.h2 h.d2 h.ne), h.d1.wrote hw (data_of_feet h.d1 h.h2 h.d2 h.nd) (row_of_feet h.d1 h.h2 h.d2 h.apart), hH, hD, h.ne, h.nd, fun k hk e => ?_⟩
  rcases hn with e1 | ⟨j, e1, hj⟩
  · exact h.apart k hk (e1 ▸ e)
  · rw [e1] at e
    have := own_lt h.d1.2.1 k hk
    injection e with e
    omega
theorem UQ.based' (h : UQ w B u f1 fd1 f2 fd2 dv1 dv2 s1 s2) (hH : HandS w' f1 s' fd1) (hD : DataIs w' B fd1 dv' s'.fd) (hw : Wrote (Feet f1 fd1 dv1) w w') (hn : NewOr w dv1 dv') : UQ w' B u f1 fd1 f2 fd2 dv' dv2 s' s2 := by
  refine ⟨(hw.block _ (lt_of_heap h.uf) (uf_of_feet h.uf h.h1 h.d1)).trans h.uf, hH, hD, h.h2.wrote hw (hand_of_feet h.h2 h.h1 h.d1 h.ne.symm), h.d2.wrote hw (data_of_feet h.d2 h.h1 h.d1 h.nd.symm) (row_of_feet h.d2 h.h1 h.d1 (fun k hk e => h.apart k e hk)), h.ne, h.nd, fun k hk e => ?_⟩
  rcases hn with e1 | ⟨j, e1, hj⟩
  · exact h.apart k (e1 ▸ hk) e
  · rw [e1] at hk
    have := own_lt h.d2.2.1 k e
    injection hk with hk
    omega
theorem UQ.layered (h : UQ w B u f1 fd1 f2 fd2 dv1 dv2 s1 s2) (hl : LaidH w w' f2 B fd2 s' dv2) : UGo w w' B u f1 fd1 f2 fd2 dv1 dv2 s1 s' := by
  obtain ⟨dv', a, b, c, d⟩ := hl
  exact ⟨dv1, dv', h.layered' a b c d, c.mono (fun _ _ h => .inr h), .inl rfl, d⟩
theorem UQ.based (h : UQ w B u f1 fd1 f2 fd2 dv1 dv2 s1 s2) (hl : LaidH w w' f1 B fd1 s' dv1) : UGo w w' B u f1 fd1 f2 fd2 dv1 dv2 s' s2 := by
  obtain ⟨dv', a, b, c, d⟩ := hl
  exact ⟨dv', dv2, h.based' a b c d, c.mono (fun _ _ h => .inl h), d, .inl rfl⟩
theorem UQ.wrote {S : Nat → Prop} (h : UQ w B u f1 fd1 f2 fd2 dv1 dv2 s1 s2) (hw : Wrote S w w') (hu : ¬ S u) (ha : ¬ S f1) (hb : ¬ S f2) (hc : ¬ S fd1) (hd : ¬ S fd2) (h1 : ∀ k, dv1.ownBlock = some k → ¬ S k) (h2 : ∀ k, dv2.ownBlock = some k → ¬ S k) : UQ w' B u f1 fd1 f2 fd2 dv1 dv2 s1 s2 :=
  ⟨(hw.block _ (lt_of_heap h.uf) hu).trans h.uf, h.h1.wrote hw ha, h.d1.wrote hw hc h1, h.h2.wrote hw hb, h.d2.wrote hw hd h2, h.ne, h.nd, h.apart⟩
theorem UQ.below (h : UQ w B u f1 fd1 f2 fd2 dv1 dv2 s1 s2) (hb : Below w.heap.size w w') : UQ w' B u f1 fd1 f2 fd2 dv1 dv2 s1 s2 :=
  h.wrote (S := fun _ => False) (Wrote.of_below hb) id id id id id (fun _ _ => id) (fun _ _ => id)
theorem UGo.same (h : UQ w B u f1 fd1 f2 fd2 dv1 dv2 s1 s2) (hb : Below w.heap.size w w') : UGo w w' B u f1 fd1 f2 fd2 dv1 dv2 s1 s2 :=
  ⟨dv1, dv2, h.below hb, Wrote.of_below hb, .inl rfl, .inl rfl⟩
theorem NewOr.trans {w1 : World} {a b c : Value} (hs : w.heap.size ≤ w1.heap.size) (h : NewOr w a b) (h1 : NewOr w1 b c) : NewOr w a c := by
  rcases h1 with e | ⟨k, e, hk⟩
  · rcases h with e2 | ⟨j, e2, hj⟩
    · exact .inl (e.trans e2)
    · exact .inr ⟨j, e.trans e2, hj⟩
  · exact .inr ⟨k, e, Nat.le_trans hs hk⟩
theorem NewOr.old {a b : Value} (h : NewOr w a b) {k : Nat} (hk : b.ownBlock = some k) (hl : k < w.heap.size) : a.ownBlock = some k := by
  rcases h with e | ⟨j, e, hj⟩
  · exact e ▸ hk
  · rw [e] at hk; injection hk with hk; omega
theorem feet_old' {f fd k : Nat} {dv dv' : Value} (hn : NewOr w dv dv') (hk : k < w.heap.size) (h : Feet f fd dv' k) : Feet f fd dv k := by
  rcases h with e | e | e
  · exact .inl e
  · exact .inr (.inl e)
  · exact .inr (.inr (hn.old e hk))
theorem UGo.trans {w1 : World} {dv1' dv2' : Value} {t1 t2 : St} (hq : UQ w1 B u f1 fd1 f2 fd2 dv1' dv2' t1 t2) (hw : Wrote (Feet2 f1 fd1 f2 fd2 dv1 dv2) w w1) (hn1 : NewOr w dv1 dv1') (hn2 : NewOr w dv2 dv2') (h : UGo w1 w' B u f1 fd1 f2 fd2 dv1' dv2' s1 s2) : UGo w w' B u f1 fd1 f2 fd2 dv1 dv2 s1 s2 := by
  obtain ⟨a, b, hq2, hw2, m1, m2⟩ := h
  refine ⟨a, b, hq2, ⟨hw2.os.trans hw.os, hw2.tape.trans hw.tape, hw2.output.trans hw.output, Nat.le_trans hw.size hw2.size, fun k hk hs => ?_⟩, hn1.trans hw.size m1, hn2.trans hw.size m2⟩
  refine (hw2.block k (Nat.lt_of_lt_of_le hk hw.size) (fun hs2 => hs ?_)).trans (hw.block k hk hs)
  rcases hs2 with e | e
  · exact .inl (feet_old' hn1 hk e)
  · exact .inr (feet_old' hn2 hk e)
/-- Low blocks stay. -/
theorem UQ.low (h : UQ w B u f1 fd1 f2 fd2 dv1 dv2 s1 s2) {S : Nat} (a : S ≤ f1) (b : S ≤ fd1) (c : S ≤ f2) (d : S ≤ fd2) (e : S ≤ B) : ∀ k, Feet2 f1 fd1 f2 fd2 dv1 dv2 k → S ≤ k := by
  rintro k ((h' | h' | h') | (h' | h' | h'))
  · omega
  · omega
  · have := own_base h.d1.2.1 k h'; omega
  · omega
  · omega
  · have := own_base h.d2.2.1 k h'; omega
end
theorem ErrIs.zero {S : Nat} {ad : Nat → Addr} {w : World} {v : Value} {k : Int} (h : ErrIs S ad w v k) (hk : k = 0) : v = .nilIface := by
  subst hk
  rcases h with ⟨h, _⟩ | ⟨_, h⟩ | ⟨_, h⟩ | ⟨_, h⟩ | ⟨_, h⟩ | ⟨b, op, nm, b2, rfl, hb, hc, hS2, h⟩
  · exact h
  · omega
  · omega
  · omega
  · omega
  · rcases h with ⟨h, _⟩ | ⟨h, _⟩ <;> omega
theorem ErrIs.shape {S : Nat} {ad : Nat → Addr} {w : World} {v : Value} {k : Int} (h : ErrIs S ad w v k) (hk : k ≠ 0) : ∃ t a, v = .iface t (.pointer (some a)) := by
  rcases h with ⟨_, h⟩ | ⟨h, _⟩ | ⟨h, _⟩ | ⟨h, _⟩ | ⟨h, _⟩ | ⟨b, op, nm, b2, h, _⟩
  · exact absurd h hk
  · exact ⟨_, _, h⟩
  · exact ⟨_, _, h⟩
  · exact ⟨_, _, h⟩
  · exact ⟨_, _, h⟩
  · exact ⟨_, _, h⟩
theorem Sents.wrote {S : Nat} {ad : Nat → Addr} {w w' : World} {F : Nat → Prop} (h : Sents S w ad) (hw : Wrote F w w') (hF : ∀ j, F j → S ≤ j) : Sents S w' ad := by
  refine ⟨fun g hg => ?_, fun g hg => ?_, h.ne, h.low⟩
  · have hc := h.cell g hg
    refine (World.cell?_of_block (hw.block _ (cell_lt hc) (fun e => ?_))).trans hc
    have := hF _ e
    have := (h.low g hg).1
    simp only at *
    omega
  · obtain ⟨c, t, hc⟩ := h.blk g hg
    refine ⟨c, t, (hw.block _ (lt_of_heap hc) (fun e => ?_)).trans hc⟩
    have := hF _ e
    have := (h.low g hg).2
    omega
section
variable (S B u f1 fd1 f2 fd2 : Nat) (ad : Nat → Addr) (dv1 dv2 : Value) (s1 s2 s1' s2' : St) (w : World) (hS : Sents S w ad) (hlow : ∀ k, Feet2 f1 fd1 f2 fd2 dv1 dv2 k → S ≤ k) (hU : UQ w B u f1 fd1 f2 fd2 dv1 dv2 s1 s2)
include hS hlow hU
set_option maxRecDepth 100000 in
set_option maxHeartbeats 2000000 in
theorem u56_ok (A : Option Addr) (m c : Nat) (n : Int) (hl : Calls Tryd.prog 35 #[.pointer (some ⟨f2, 0, none⟩), .slice A m c] w fun e w' => e = .returned (.tuple #[.int .i64 n, .nilIface]) ∧ LaidH w w' f2 B fd2 s2' dv2)
    (hb : ∀ (w1 : World) (dv2' : Value), UQ w1 B u f1 fd1 f2 fd2 dv1 dv2' s1 s2' → Wrote (Feet f2 fd2 dv2) w w1 → Sents S w1 ad → Calls Tryd.prog 35 #[.pointer (some ⟨f1, 0, none⟩), .slice A m c] w1 fun e w' => ∃ n' : Int, e = .returned (.tuple #[.int .i64 n', .nilIface]) ∧ LaidH w1 w' f1 B fd1 s1' dv1) :
    Calls Tryd.prog 56 #[.pointer (some ⟨u, 0, none⟩), .slice A m c] w fun e w' => e = .returned (.tuple #[.int .i64 n, .nilIface]) ∧ UGo w w' B u f1 fd1 f2 fd2 dv1 dv2 s1' s2' := by
  have c0 := (cell_of hU.uf 0).trans rfl
  have c1 := (cell_of hU.uf 1).trans rfl
  have HL := Lib.hid hl
  have HB := Lib.hid hb
  have HU := Lib.hid hU
  have HS := Lib.hid hS
  have HW := Lib.hid hlow
  clear hl hb hU hS hlow
  go_enter Tryd.func56, Tryd.ntmps56
  go_wp2_with (first
    | (go_at_call 35; refine (HB.out w1 dv2' HQ1.out HW1.out HS1.out).mono ?_; rintro e w2 ⟨n', rfl, hL2⟩; have z0 := nil_nil w2)
    | (go_at_call 35; refine HL.out.mono ?_; rintro e w1 ⟨rfl, dv2', hH2, hD2, hW2, hN2⟩; have HQ1 := Lib.hid (HU.out.layered' hH2 hD2 hW2 hN2); have HN1 := Lib.hid (show NewOr w dv2 dv2' from hN2); have HW1 := Lib.hid hW2; have HS1 := Lib.hid (HS.out.wrote hW2 (fun j hj => HW.out j (.inr hj))); have y0 := nil_nil w1; clear c0 c1 hH2 hD2 hW2 hN2; have c0 := (cell_of HQ1.out.uf 0).trans rfl; have c1 := (cell_of HQ1.out.uf 1).trans rfl))
  go_ret2
  exact ⟨rfl, UGo.trans HQ1.out (HW1.out.mono (fun _ _ h => .inr h)) (.inl rfl) HN1.out (HQ1.out.based hL2)⟩
set_option maxRecDepth 100000 in
set_option maxHeartbeats 2000000 in
theorem u56_no (A : Option Addr) (m c : Nat) (n k : Int) (hk : k ≠ 0) (hk4 : k ≠ 4) (hl : Calls Tryd.prog 35 #[.pointer (some ⟨f2, 0, none⟩), .slice A m c] w fun e w' => ∃ v, e = .returned (.tuple #[.int .i64 n, v]) ∧ ErrIs S ad w' v k ∧ LaidH w w' f2 B fd2 s2' dv2) :
    Calls Tryd.prog 56 #[.pointer (some ⟨u, 0, none⟩), .slice A m c] w fun e w' => ∃ v, e = .returned (.tuple #[.int .i64 n, v]) ∧ ErrIs S ad w' v k ∧ UGo w w' B u f1 fd1 f2 fd2 dv1 dv2 s1 s2' := by
  have c0 := (cell_of hU.uf 0).trans rfl
  have c1 := (cell_of hU.uf 1).trans rfl
  have HL := Lib.hid hl
  have HU := Lib.hid hU
  have HS := Lib.hid hS
  have HW := Lib.hid hlow
  clear hl hU hS hlow
  go_enter Tryd.func56, Tryd.ntmps56
  go_wp2_with (go_at_call 35; refine HL.out.mono ?_; rintro e w1 ⟨v, rfl, hE, hL⟩; obtain ⟨tv, av, rfl⟩ := hE.shape hk; obtain ⟨dv2', hH2, hD2, hW2, hN2⟩ := id hL; have hS1 := HS.out.wrote hW2 (fun j hj => HW.out j (.inr hj)); have y0 := (hE.nilB w1).trans (by rw [decide_eq_false hk]); have y1 := (hE.eofB hS1).trans (by rw [decide_eq_false hk4]); have g1 := hS1.cell 1 (by decide); have HE := Lib.hid hE; have HLL := Lib.hid hL; have HQ1 := Lib.hid (HU.out.layered' hH2 hD2 hW2 hN2); clear c0 c1 hH2 hD2 hW2 hN2 hE hL hS1; have c0 := (cell_of HQ1.out.uf 0).trans rfl; have c1 := (cell_of HQ1.out.uf 1).trans rfl)
  go_ret2
  exact ⟨_, rfl, HE.out, HU.out.layered HLL.out⟩
set_option maxRecDepth 100000 in
set_option maxHeartbeats 2000000 in
theorem u57_ok (A : Option Addr) (m c : Nat) (off : Int) (n : Int) (hl : Calls Tryd.prog 36 #[.pointer (some ⟨f2, 0, none⟩), .slice A m c, .int .i64 off] w fun e w' => e = .returned (.tuple #[.int .i64 n, .nilIface]) ∧ LaidH w w' f2 B fd2 s2' dv2)
    (hb : ∀ (w1 : World) (dv2' : Value), UQ w1 B u f1 fd1 f2 fd2 dv1 dv2' s1 s2' → Wrote (Feet f2 fd2 dv2) w w1 → Sents S w1 ad → Calls Tryd.prog 36 #[.pointer (some ⟨f1, 0, none⟩), .slice A m c, .int .i64 off] w1 fun e w' => ∃ n' : Int, e = .returned (.tuple #[.int .i64 n', .nilIface]) ∧ LaidH w1 w' f1 B fd1 s1' dv1) :
    Calls Tryd.prog 57 #[.pointer (some ⟨u, 0, none⟩), .slice A m c, .int .i64 off] w fun e w' => e = .returned (.tuple #[.int .i64 n, .nilIface]) ∧ UGo w w' B u f1 fd1 f2 fd2 dv1 dv2 s1' s2' := by
  have c0 := (cell_of hU.uf 0).trans rfl
  have c1 := (cell_of hU.uf 1).trans rfl
  have HL := Lib.hid hl
  have HB := Lib.hid hb
  have HU := Lib.hid hU
  have HS := Lib.hid hS
  have HW := Lib.hid hlow
  clear hl hb hU hS hlow
  go_enter Tryd.func57, Tryd.ntmps57
  go_wp2_with (first
    | (go_at_call 36; refine (HB.out w1 dv2' HQ1.out HW1.out HS1.out).mono ?_; rintro e w2 ⟨n', rfl, hL2⟩; have z0 := nil_nil w2)
    | (go_at_call 36; refine HL.out.mono ?_; rintro e w1 ⟨rfl, dv2', hH2, hD2, hW2, hN2⟩; have HQ1 := Lib.hid (HU.out.layered' hH2 hD2 hW2 hN2); have HN1 := Lib.hid (show NewOr w dv2 dv2' from hN2); have HW1 := Lib.hid hW2; have HS1 := Lib.hid (HS.out.wrote hW2 (fun j hj => HW.out j (.inr hj))); have y0 := nil_nil w1; clear c0 c1 hH2 hD2 hW2 hN2; have c0 := (cell_of HQ1.out.uf 0).trans rfl; have c1 := (cell_of HQ1.out.uf 1).trans rfl))
  go_ret2
  exact ⟨rfl, UGo.trans HQ1.out (HW1.out.mono (fun _ _ h => .inr h)) (.inl rfl) HN1.out (HQ1.out.based hL2)⟩
set_option maxRecDepth 100000 in
set_option maxHeartbeats 2000000 in
theorem u57_no (A : Option Addr) (m c : Nat) (off : Int) (n k : Int) (hk : k ≠ 0) (hk4 : k ≠ 4) (hl : Calls Tryd.prog 36 #[.pointer (some ⟨f2, 0, none⟩), .slice A m c, .int .i64 off] w fun e w' => ∃ v, e = .returned (.tuple #[.int .i64 n, v]) ∧ ErrIs S ad w' v k ∧ LaidH w w' f2 B fd2 s2' dv2) :
    Calls Tryd.prog 57 #[.pointer (some ⟨u, 0, none⟩), .slice A m c, .int .i64 off] w fun e w' => ∃ v, e = .returned (.tuple #[.int .i64 n, v]) ∧ ErrIs S ad w' v k ∧ UGo w w' B u f1 fd1 f2 fd2 dv1 dv2 s1 s2' := by
  have c0 := (cell_of hU.uf 0).trans rfl
  have c1 := (cell_of hU.uf 1).trans rfl
  have HL := Lib.hid hl
  have HU := Lib.hid hU
  have HS := Lib.hid hS
  have HW := Lib.hid hlow
  clear hl hU hS hlow
  go_enter Tryd.func57, Tryd.ntmps57
  go_wp2_with (go_at_call 36; refine HL.out.mono ?_; rintro e w1 ⟨v, rfl, hE, hL⟩; obtain ⟨tv, av, rfl⟩ := hE.shape hk; obtain ⟨dv2', hH2, hD2, hW2, hN2⟩ := id hL; have hS1 := HS.out.wrote hW2 (fun j hj => HW.out j (.inr hj)); have y0 := (hE.nilB w1).trans (by rw [decide_eq_false hk]); have y1 := (hE.eofB hS1).trans (by rw [decide_eq_false hk4]); have g1 := hS1.cell 1 (by decide); have HE := Lib.hid hE; have HLL := Lib.hid hL; have HQ1 := Lib.hid (HU.out.layered' hH2 hD2 hW2 hN2); clear c0 c1 hH2 hD2 hW2 hN2 hE hL hS1; have c0 := (cell_of HQ1.out.uf 0).trans rfl; have c1 := (cell_of HQ1.out.uf 1).trans rfl)
  go_ret2
  exact ⟨_, rfl, HE.out, HU.out.layered HLL.out⟩
set_option maxRecDepth 100000 in
set_option maxHeartbeats 2000000 in
theorem u58_ok (off wh : Int) (n : Int) (hl : Calls Tryd.prog 37 #[.pointer (some ⟨f2, 0, none⟩), .int .i64 off, .int .i64 wh] w fun e w' => e = .returned (.tuple #[.int .i64 n, .nilIface]) ∧ LaidH w w' f2 B fd2 s2' dv2)
    (hb : ∀ (w1 : World) (dv2' : Value), UQ w1 B u f1 fd1 f2 fd2 dv1 dv2' s1 s2' → Wrote (Feet f2 fd2 dv2) w w1 → Sents S w1 ad → Calls Tryd.prog 37 #[.pointer (some ⟨f1, 0, none⟩), .int .i64 off, .int .i64 wh] w1 fun e w' => ∃ n' : Int, e = .returned (.tuple #[.int .i64 n', .nilIface]) ∧ LaidH w1 w' f1 B fd1 s1' dv1) :
    Calls Tryd.prog 58 #[.pointer (some ⟨u, 0, none⟩), .int .i64 off, .int .i64 wh] w fun e w' => e = .returned (.tuple #[.int .i64 n, .nilIface]) ∧ UGo w w' B u f1 fd1 f2 fd2 dv1 dv2 s1' s2' := by
  have c0 := (cell_of hU.uf 0).trans rfl
  have c1 := (cell_of hU.uf 1).trans rfl
  have HL := Lib.hid hl
  have HB := Lib.hid hb
  have HU := Lib.hid hU
  have HS := Lib.hid hS
  have HW := Lib.hid hlow
  clear hl hb hU hS hlow
  go_enter Tryd.func58, Tryd.ntmps58
  go_wp2_with (first
    | (go_at_call 37; refine (HB.out w1 dv2' HQ1.out HW1.out HS1.out).mono ?_; rintro e w2 ⟨n', rfl, hL2⟩; have z0 := nil_nil w2)
    | (go_at_call 37; refine HL.out.mono ?_; rintro e w1 ⟨rfl, dv2', hH2, hD2, hW2, hN2⟩; have HQ1 := Lib.hid (HU.out.layered' hH2 hD2 hW2 hN2); have HN1 := Lib.hid (show NewOr w dv2 dv2' from hN2); have HW1 := Lib.hid hW2; have HS1 := Lib.hid (HS.out.wrote hW2 (fun j hj => HW.out j (.inr hj))); have y0 := nil_nil w1; clear c0 c1 hH2 hD2 hW2 hN2; have c0 := (cell_of HQ1.out.uf 0).trans rfl; have c1 := (cell_of HQ1.out.uf 1).trans rfl))
  go_ret2
  exact ⟨rfl, UGo.trans HQ1.out (HW1.out.mono (fun _ _ h => .inr h)) (.inl rfl) HN1.out (HQ1.out.based hL2)⟩
set_option maxRecDepth 100000 in
set_option maxHeartbeats 2000000 in
theorem u58_no (off wh : Int) (n k : Int) (hk : k ≠ 0) (hk4 : k ≠ 4) (hl : Calls Tryd.prog 37 #[.pointer (some ⟨f2, 0, none⟩), .int .i64 off, .int .i64 wh] w fun e w' => ∃ v, e = .returned (.tuple #[.int .i64 n, v]) ∧ ErrIs S ad w' v k ∧ LaidH w w' f2 B fd2 s2' dv2) :
    Calls Tryd.prog 58 #[.pointer (some ⟨u, 0, none⟩), .int .i64 off, .int .i64 wh] w fun e w' => ∃ v, e = .returned (.tuple #[.int .i64 n, v]) ∧ ErrIs S ad w' v k ∧ UGo w w' B u f1 fd1 f2 fd2 dv1 dv2 s1 s2' := by
  have c0 := (cell_of hU.uf 0).trans rfl
  have c1 := (cell_of hU.uf 1).trans rfl
  have HL := Lib.hid hl
  have HU := Lib.hid hU
  have HS := Lib.hid hS
  have HW := Lib.hid hlow
  clear hl hU hS hlow
  go_enter Tryd.func58, Tryd.ntmps58
  go_wp2_with (go_at_call 37; refine HL.out.mono ?_; rintro e w1 ⟨v, rfl, hE, hL⟩; obtain ⟨tv, av, rfl⟩ := hE.shape hk; obtain ⟨dv2', hH2, hD2, hW2, hN2⟩ := id hL; have hS1 := HS.out.wrote hW2 (fun j hj => HW.out j (.inr hj)); have y0 := (hE.nilB w1).trans (by rw [decide_eq_false hk]); have y1 := (hE.eofB hS1).trans (by rw [decide_eq_false hk4]); have g1 := hS1.cell 1 (by decide); have HE := Lib.hid hE; have HLL := Lib.hid hL; have HQ1 := Lib.hid (HU.out.layered' hH2 hD2 hW2 hN2); clear c0 c1 hH2 hD2 hW2 hN2 hE hL hS1; have c0 := (cell_of HQ1.out.uf 0).trans rfl; have c1 := (cell_of HQ1.out.uf 1).trans rfl)
  go_ret2
  exact ⟨_, rfl, HE.out, HU.out.layered HLL.out⟩
set_option maxRecDepth 100000 in
set_option maxHeartbeats 2000000 in
theorem u59_ok (off : Int) (n : Int) (hl : Calls Tryd.prog 38 #[.pointer (some ⟨f2, 0, none⟩), .int .i64 off] w fun e w' => e = .returned (.nilIface) ∧ LaidH w w' f2 B fd2 s2' dv2)
    (hb : ∀ (w1 : World) (dv2' : Value), UQ w1 B u f1 fd1 f2 fd2 dv1 dv2' s1 s2' → Wrote (Feet f2 fd2 dv2) w w1 → Sents S w1 ad → Calls Tryd.prog 38 #[.pointer (some ⟨f1, 0, none⟩), .int .i64 off] w1 fun e w' => ∃ n' : Int, e = .returned (.nilIface) ∧ LaidH w1 w' f1 B fd1 s1' dv1) :
    Calls Tryd.prog 59 #[.pointer (some ⟨u, 0, none⟩), .int .i64 off] w fun e w' => e = .returned (.nilIface) ∧ UGo w w' B u f1 fd1 f2 fd2 dv1 dv2 s1' s2' := by
  have c0 := (cell_of hU.uf 0).trans rfl
  have c1 := (cell_of hU.uf 1).trans rfl
  have HL := Lib.hid hl
  have HB := Lib.hid hb
  have HU := Lib.hid hU
  have HS := Lib.hid hS
  have HW := Lib.hid hlow
  clear hl hb hU hS hlow
  go_enter Tryd.func59, Tryd.ntmps59
  go_wp2_with (first
    | (go_at_call 38; refine (HB.out w1 dv2' HQ1.out HW1.out HS1.out).mono ?_; rintro e w2 ⟨n', rfl, hL2⟩; have z0 := nil_nil w2)
    | (go_at_call 38; refine HL.out.mono ?_; rintro e w1 ⟨rfl, dv2', hH2, hD2, hW2, hN2⟩; have HQ1 := Lib.hid (HU.out.layered' hH2 hD2 hW2 hN2); have HN1 := Lib.hid (show NewOr w dv2 dv2' from hN2); have HW1 := Lib.hid hW2; have HS1 := Lib.hid (HS.out.wrote hW2 (fun j hj => HW.out j (.inr hj))); have y0 := nil_nil w1; clear c0 c1 hH2 hD2 hW2 hN2; have c0 := (cell_of HQ1.out.uf 0).trans rfl; have c1 := (cell_of HQ1.out.uf 1).trans rfl))
  go_ret
  exact ⟨rfl, UGo.trans HQ1.out (HW1.out.mono (fun _ _ h => .inr h)) (.inl rfl) HN1.out (HQ1.out.based hL2)⟩
set_option maxRecDepth 100000 in
set_option maxHeartbeats 2000000 in
theorem u59_no (off : Int) (n k : Int) (hk : k ≠ 0) (hk4 : k ≠ 4) (hl : Calls Tryd.prog 38 #[.pointer (some ⟨f2, 0, none⟩), .int .i64 off] w fun e w' => ∃ v, e = .returned (v) ∧ ErrIs S ad w' v k ∧ LaidH w w' f2 B fd2 s2' dv2) :
    Calls Tryd.prog 59 #[.pointer (some ⟨u, 0, none⟩), .int .i64 off] w fun e w' => ∃ v, e = .returned (v) ∧ ErrIs S ad w' v k ∧ UGo w w' B u f1 fd1 f2 fd2 dv1 dv2 s1 s2' := by
  have c0 := (cell_of hU.uf 0).trans rfl
  have c1 := (cell_of hU.uf 1).trans rfl
  have HL := Lib.hid hl
  have HU := Lib.hid hU
  have HS := Lib.hid hS
  have HW := Lib.hid hlow
  clear hl hU hS hlow
  go_enter Tryd.func59, Tryd.ntmps59
  go_wp2_with (go_at_call 38; refine HL.out.mono ?_; rintro e w1 ⟨v, rfl, hE, hL⟩; obtain ⟨tv, av, rfl⟩ := hE.shape hk; obtain ⟨dv2', hH2, hD2, hW2, hN2⟩ := id hL; have hS1 := HS.out.wrote hW2 (fun j hj => HW.out j (.inr hj)); have y0 := (hE.nilB w1).trans (by rw [decide_eq_false hk]); have y1 := (hE.eofB hS1).trans (by rw [decide_eq_false hk4]); have g1 := hS1.cell 1 (by decide); have HE := Lib.hid hE; have HLL := Lib.hid hL; have HQ1 := Lib.hid (HU.out.layered' hH2 hD2 hW2 hN2); clear c0 c1 hH2 hD2 hW2 hN2 hE hL hS1; have c0 := (cell_of HQ1.out.uf 0).trans rfl; have c1 := (cell_of HQ1.out.uf 1).trans rfl)
  go_ret
  exact ⟨_, rfl, HE.out, HU.out.layered HLL.out⟩
set_option maxRecDepth 100000 in
set_option maxHeartbeats 2000000 in
theorem u66_ok  (n : Int) (hl : Calls Tryd.prog 45 #[.pointer (some ⟨f2, 0, none⟩)] w fun e w' => e = .returned (.nilIface) ∧ LaidH w w' f2 B fd2 s2' dv2)
    (hb : ∀ (w1 : World) (dv2' : Value), UQ w1 B u f1 fd1 f2 fd2 dv1 dv2' s1 s2' → Wrote (Feet f2 fd2 dv2) w w1 → Sents S w1 ad → Calls Tryd.prog 45 #[.pointer (some ⟨f1, 0, none⟩)] w1 fun e w' => ∃ n' : Int, e = .returned (.nilIface) ∧ LaidH w1 w' f1 B fd1 s1' dv1) :
    Calls Tryd.prog 66 #[.pointer (some ⟨u, 0, none⟩)] w fun e w' => e = .returned (.nilIface) ∧ UGo w w' B u f1 fd1 f2 fd2 dv1 dv2 s1' s2' := by
  have c0 := (cell_of hU.uf 0).trans rfl
  have c1 := (cell_of hU.uf 1).trans rfl
  have HL := Lib.hid hl
  have HB := Lib.hid hb
  have HU := Lib.hid hU
  have HS := Lib.hid hS
  have HW := Lib.hid hlow
  clear hl hb hU hS hlow
  go_enter Tryd.func66, Tryd.ntmps66
  go_wp2_with (first
    | (go_at_call 45; refine (HB.out w1 dv2' HQ1.out HW1.out HS1.out).mono ?_; rintro e w2 ⟨n', rfl, hL2⟩; have z0 := nil_nil w2)
    | (go_at_call 45; refine HL.out.mono ?_; rintro e w1 ⟨rfl, dv2', hH2, hD2, hW2, hN2⟩; have HQ1 := Lib.hid (HU.out.layered' hH2 hD2 hW2 hN2); have HN1 := Lib.hid (show NewOr w dv2 dv2' from hN2); have HW1 := Lib.hid hW2; have HS1 := Lib.hid (HS.out.wrote hW2 (fun j hj => HW.out j (.inr hj))); have y0 := nil_nil w1; clear c0 c1 hH2 hD2 hW2 hN2; have c0 := (cell_of HQ1.out.uf 0).trans rfl; have c1 := (cell_of HQ1.out.uf 1).trans rfl))
  go_ret
  exact ⟨rfl, UGo.trans HQ1.out (HW1.out.mono (fun _ _ h => .inr h)) (.inl rfl) HN1.out (HQ1.out.based hL2)⟩
set_option maxRecDepth 100000 in
set_option maxHeartbeats 2000000 in
theorem u66_no  (n k : Int) (hk : k ≠ 0) (hk4 : k ≠ 4) (hl : Calls Tryd.prog 45 #[.pointer (some ⟨f2, 0, none⟩)] w fun e w' => ∃ v, e = .returned (v) ∧ ErrIs S ad w' v k ∧ LaidH w w' f2 B fd2 s2' dv2) :
    Calls Tryd.prog 66 #[.pointer (some ⟨u, 0, none⟩)] w fun e w' => ∃ v, e = .returned (v) ∧ ErrIs S ad w' v k ∧ UGo w w' B u f1 fd1 f2 fd2 dv1 dv2 s1 s2' := by
  have c0 := (cell_of hU.uf 0).trans rfl
  have c1 := (cell_of hU.uf 1).trans rfl
  have HL := Lib.hid hl
  have HU := Lib.hid hU
  have HS := Lib.hid hS
  have HW := Lib.hid hlow
  clear hl hU hS hlow
  go_enter Tryd.func66, Tryd.ntmps66
  go_wp2_with (go_at_call 45; refine HL.out.mono ?_; rintro e w1 ⟨v, rfl, hE, hL⟩; obtain ⟨tv, av, rfl⟩ := hE.shape hk; obtain ⟨dv2', hH2, hD2, hW2, hN2⟩ := id hL; have hS1 := HS.out.wrote hW2 (fun j hj => HW.out j (.inr hj)); have y0 := (hE.nilB w1).trans (by rw [decide_eq_false hk]); have y1 := (hE.eofB hS1).trans (by rw [decide_eq_false hk4]); have g1 := hS1.cell 1 (by decide); have HE := Lib.hid hE; have HLL := Lib.hid hL; have HQ1 := Lib.hid (HU.out.layered' hH2 hD2 hW2 hN2); clear c0 c1 hH2 hD2 hW2 hN2 hE hL hS1; have c0 := (cell_of HQ1.out.uf 0).trans rfl; have c1 := (cell_of HQ1.out.uf 1).trans rfl)
  go_ret
  exact ⟨_, rfl, HE.out, HU.out.layered HLL.out⟩
end
end Go.Proofs.YtnkhfdnahnphdaaDoor
end
