/- Parts of the proof, merged: UgWalk, UpPlain, UfWalk. -/
import Derived.Test.YtnkhfdnahnphdaaDoorZc08
section
namespace Go.Proofs.YtnkhfdnahnphdaaDoor
open Go.ChangeShapes Go.WideShapes Go.ChangeAt Go.RowKit Go.Rd
open Go.Proofs.YtnkhfdnahnphdaaDoorW.PrintWords Go.Proofs.YtnkhfdnahnphdaaDoorW.PrintLast Go.Proofs.YtnkhfdnahnphdaaDoorW.PrintMore
set_option linter.unusedVariables false
set_option linter.unusedSectionVars false
theorem nil_neq (W : World) : (binOp .neq 96 .nilIface .nilIface).run Tryd.prog W = .ok (.bool false) W := by kernel_rfl
theorem err_neq (W : World) (v : Value) : (binOp .neq 96 (.iface 149 v) .nilIface).run Tryd.prog W = .ok (.bool true) W := by kernel_rfl
theorem path_neq (W : World) (v : Value) : (binOp .neq 96 (.iface 124 v) .nilIface).run Tryd.prog W = .ok (.bool true) W := by kernel_rfl
theorem ErrIs.neqB {S : Nat} {ad : Nat → Addr} {w : World} {v : Value} {k : Int} (h : ErrIs S ad w v k) (hk : k ≠ 0) (W : World) : (binOp .neq 96 v .nilIface).run Tryd.prog W = .ok (.bool true) W := by
  rcases h with ⟨_, h⟩ | ⟨rfl, rfl⟩ | ⟨rfl, rfl⟩ | ⟨rfl, rfl⟩ | ⟨rfl, rfl⟩ | ⟨b, op, nm, b2, rfl, hb, hc, hS2, h⟩
  · exact absurd h hk
  · exact err_neq W _
  · exact err_neq W _
  · exact err_neq W _
  · exact err_neq W _
  · exact path_neq W _
/-- Seeking, where the data stay. -/
theorem fl_seek2 (S B f fd : Nat) (ad : Nat → Addr) (s : St) (x : Sx) (dv : Value) (w : World) (hH : HandS w f s fd) (hD : DataIs w B fd dv s.fd) (hb : FlB s) (hc : s.cl = false) (ho : x.1.op = 16) (hoff : -1152921504606846976 ≤ x.1.off ∧ x.1.off ≤ 1152921504606846976) :
    Calls Tryd.prog 37 #[.pointer (some ⟨f, 0, none⟩), .int .i64 x.1.off, .int .i64 x.1.wh] w fun e w' => ∃ n : Int, e = .returned (.tuple #[.int .i64 n, .nilIface]) ∧ HandS w' f (doF s x).2 fd ∧ Wrote (fun k => k = f) w w' := by
  obtain ⟨a, hH1, ha⟩ := hH
  obtain rfl := ha hc
  have e : doF s x = (⟨0, 0, skTo s x.1.off x.1.wh, []⟩, { s with at_ := skTo s x.1.off x.1.wh }) := by unfold doF; simp [ho, hc]
  rw [e]
  refine (seek_any f B dv _ s.fd x.1.off x.1.wh w hH1 hD hc ⟨hb.lo, hb.hi⟩ hoff (by have := hb.len; show s.bs.length ≤ _; omega)).mono ?_
  rintro e w' ⟨rfl, h1, h2⟩
  exact ⟨_, rfl, .of h1, h2⟩
theorem GotIn.wrote {w w' : World} {g m : Nat} {r : List Int} {F : Nat → Prop} (h : GotIn w g m r) (hw : Wrote F w w') (hF : ¬ F g) : GotIn w' g m r := by
  obtain ⟨cur, h1, h2, h3⟩ := h
  exact ⟨cur, (hw.block _ (lt_of_heap h1) hF).trans h1, h2, h3⟩
section
variable {w w' : World} {B u f1 fd1 f2 fd2 g : Nat} {dv1 dv2 dv' : Value} {s1 s2 s' : St}
/-- A block of bytes of nobody's. -/
structure Out (w : World) (u f1 fd1 f2 fd2 : Nat) (dv1 dv2 : Value) (g : Nat) : Prop where
  u : g ≠ u
  f1 : g ≠ f1
  fd1 : g ≠ fd1
  f2 : g ≠ f2
  fd2 : g ≠ fd2
  d1 : ∀ k, dv1.ownBlock = some k → k ≠ g
  d2 : ∀ k, dv2.ownBlock = some k → k ≠ g
theorem UQ.out (h : UQ w B u f1 fd1 f2 fd2 dv1 dv2 s1 s2) {cur : Array Value} (hg : w.heap[g]? = some (.cells cur 5 (0, 0))) (h1 : ∀ k, dv1.ownBlock = some k → k ≠ g) (h2 : ∀ k, dv2.ownBlock = some k → k ≠ g) : Out w u f1 fd1 f2 fd2 dv1 dv2 g := by
  obtain ⟨c1, hc1⟩ := h.h1.block
  obtain ⟨c2, hc2⟩ := h.h2.block
  exact ⟨blk_ne hg h.uf (by decide), blk_ne hg hc1 (by decide), blk_ne hg h.d1.1 (by decide), blk_ne hg hc2 (by decide), blk_ne hg h.d2.1 (by decide), h1, h2⟩
theorem UQ.got2 (h : UQ w B u f1 fd1 f2 fd2 dv1 dv2 s1 s2) (ho : Out w u f1 fd1 f2 fd2 dv1 dv2 g) (hH : HandS w' f2 s' fd2) (hD : DataIs w' B fd2 dv2 s'.fd) (hw : Wrote (fun k => k = f2 ∨ k = g) w w') : UQ w' B u f1 fd1 f2 fd2 dv1 dv2 s1 s' := by
  obtain ⟨c2, hc2⟩ := h.h2.block
  obtain ⟨c1, hc1⟩ := h.h1.block
  have n1 : u ≠ f2 := blk_ne h.uf hc2 (by decide)
  have n2 : fd1 ≠ f2 := blk_ne h.d1.1 hc2 (by decide)
  refine ⟨(hw.block _ (lt_of_heap h.uf) (by rintro (e | e); exact n1 e; exact ho.u e.symm)).trans h.uf, h.h1.wrote hw (by rintro (e | e); exact h.ne e; exact ho.f1 e.symm), h.d1.wrote hw (by rintro (e | e); exact n2 e; exact ho.fd1 e.symm) (fun k hk => ?_), hH, hD, h.ne, h.nd, h.apart⟩
  rintro (e | e)
  · obtain ⟨c, hc⟩ := own_typed h.d1.2.1 k hk
    exact blk_ne hc hc2 (by decide) e
  · exact ho.d1 k hk e
theorem UQ.got1 (h : UQ w B u f1 fd1 f2 fd2 dv1 dv2 s1 s2) (hH : HandS w' f1 s' fd1) (he : s'.fd = s1.fd) (hw : Wrote (fun k => k = f1) w w') : UQ w' B u f1 fd1 f2 fd2 dv1 dv2 s' s2 := by
  have hD : DataIs w' B fd1 dv1 s'.fd := by
    rw [he]
    obtain ⟨c1, hc1⟩ := h.h1.block
    exact h.d1.wrote hw (fun e => blk_ne h.d1.1 hc1 (by decide) e) (fun k hk e => by
      obtain ⟨c, hc⟩ := own_typed h.d1.2.1 k hk
      exact blk_ne hc hc1 (by decide) e)
  exact h.based' hH hD (hw.mono (fun _ _ e => .inl e)) (.inl rfl)
end
section
variable (S B u f1 fd1 f2 fd2 : Nat) (ad : Nat → Addr) (dv1 dv2 : Value) (s1 s2 s1' s2' : St) (w : World) (hS : Sents S w ad) (hlow : ∀ k, Feet2 f1 fd1 f2 fd2 dv1 dv2 k → S ≤ k) (hU : UQ w B u f1 fd1 f2 fd2 dv1 dv2 s1 s2)
include hS hlow hU
set_option maxRecDepth 100000 in
set_option maxHeartbeats 2000000 in
theorem u54_ok (g m : Nat) (hgo : Out w u f1 fd1 f2 fd2 dv1 dv2 g) (hgS : S ≤ g) (r : List Int) (hs1 : s1'.fd = s1.fd) (hl : Calls Tryd.prog 33 #[.pointer (some ⟨f2, 0, none⟩), .slice (some ⟨g, 0, none⟩) m m] w fun e w' => e = .returned (.tuple #[.int .i64 (r.length : Int), .nilIface]) ∧ HandS w' f2 s2' fd2 ∧ DataIs w' B fd2 dv2 s2'.fd ∧ GotIn w' g m r ∧ Wrote (fun k => k = f2 ∨ k = g) w w')
    (hb : ∀ (w1 : World), UQ w1 B u f1 fd1 f2 fd2 dv1 dv2 s1 s2' → Sents S w1 ad → Calls Tryd.prog 37 #[.pointer (some ⟨f1, 0, none⟩), .int .i64 (r.length : Int), .int .i64 1] w1 fun e w' => ∃ n' : Int, e = .returned (.tuple #[.int .i64 n', .nilIface]) ∧ HandS w' f1 s1' fd1 ∧ Wrote (fun k => k = f1) w1 w') :
    Calls Tryd.prog 54 #[.pointer (some ⟨u, 0, none⟩), .slice (some ⟨g, 0, none⟩) m m] w fun e w' => e = .returned (.tuple #[.int .i64 (r.length : Int), .nilIface]) ∧ UQ w' B u f1 fd1 f2 fd2 dv1 dv2 s1' s2' ∧ GotIn w' g m r ∧ Wrote (fun k => (k = f1 ∨ k = f2) ∨ k = g) w w' := by
  have c0 := (cell_of hU.uf 0).trans rfl
  have c1 := (cell_of hU.uf 1).trans rfl
  have lo2 : S ≤ f2 := hlow f2 (.inr (.inl rfl))
  have HL := Lib.hid hl
  have HB := Lib.hid hb
  have HU := Lib.hid hU
  have HS := Lib.hid hS
  clear hl hb hU hS hlow
  go_enter Tryd.func54, Tryd.ntmps54
  go_wp2_with (first
    | (go_at_call 37; refine (HB.out w1 HQ1.out HS1.out).mono ?_; rintro e w2 ⟨n', rfl, hH3, hW3⟩; have z0 := nil_neq w2)
    | (go_at_call 33; refine HL.out.mono ?_; rintro e w1 ⟨rfl, hH2, hD2, hG2, hW2⟩; have HQ1 := Lib.hid (HU.out.got2 hgo hH2 hD2 hW2); have HW1 := Lib.hid hW2; have HG1 := Lib.hid hG2; have HS1 := Lib.hid (HS.out.wrote hW2 (by rintro j (e | e) <;> omega)); have y0 := nil_nil w1; clear c0 c1 hH2 hD2 hW2 hG2; have c0 := (cell_of HQ1.out.uf 0).trans rfl; have c1 := (cell_of HQ1.out.uf 1).trans rfl))
  go_ret2
  refine ⟨rfl, HQ1.out.got1 hH3 hs1 hW3, HG1.out.wrote hW3 hgo.f1, ?_⟩
  exact (HW1.out.mono (fun k _ e => e.elim (fun e => .inl (.inr e)) .inr)).trans (hW3.mono (fun k _ e => .inl (.inl e)))
set_option maxRecDepth 100000 in
set_option maxHeartbeats 2000000 in
theorem u54_eof (g m : Nat) (hgo : Out w u f1 fd1 f2 fd2 dv1 dv2 g) (hgS : S ≤ g) (r : List Int) (hs1 : s1'.fd = s1.fd) (hl : Calls Tryd.prog 33 #[.pointer (some ⟨f2, 0, none⟩), .slice (some ⟨g, 0, none⟩) m m] w fun e w' => e = .returned (.tuple #[.int .i64 (r.length : Int), sv ad 1]) ∧ HandS w' f2 s2' fd2 ∧ DataIs w' B fd2 dv2 s2'.fd ∧ GotIn w' g m r ∧ Wrote (fun k => k = f2 ∨ k = g) w w')
    (hb : ∀ (w1 : World), UQ w1 B u f1 fd1 f2 fd2 dv1 dv2 s1 s2' → Sents S w1 ad → Calls Tryd.prog 37 #[.pointer (some ⟨f1, 0, none⟩), .int .i64 (r.length : Int), .int .i64 1] w1 fun e w' => ∃ n' : Int, e = .returned (.tuple #[.int .i64 n', .nilIface]) ∧ HandS w' f1 s1' fd1 ∧ Wrote (fun k => k = f1) w1 w') :
    Calls Tryd.prog 54 #[.pointer (some ⟨u, 0, none⟩), .slice (some ⟨g, 0, none⟩) m m] w fun e w' => e = .returned (.tuple #[.int .i64 (r.length : Int), sv ad 1]) ∧ UQ w' B u f1 fd1 f2 fd2 dv1 dv2 s1' s2' ∧ GotIn w' g m r ∧ Wrote (fun k => (k = f1 ∨ k = f2) ∨ k = g) w w' := by
  have c0 := (cell_of hU.uf 0).trans rfl
  have c1 := (cell_of hU.uf 1).trans rfl
  have lo2 : S ≤ f2 := hlow f2 (.inr (.inl rfl))
  have HL := Lib.hid hl
  have HB := Lib.hid hb
  have HU := Lib.hid hU
  have HS := Lib.hid hS
  clear hl hb hU hS hlow
  go_enter Tryd.func54, Tryd.ntmps54
  go_wp2_with (first
    | (go_at_call 37; refine (HB.out w1 HQ1.out HS1.out).mono ?_; rintro e w2 ⟨n', rfl, hH3, hW3⟩; have z0 := nil_neq w2)
    | (go_at_call 33; refine HL.out.mono ?_; rintro e w1 ⟨rfl, hH2, hD2, hG2, hW2⟩; have HQ1 := Lib.hid (HU.out.got2 hgo hH2 hD2 hW2); have HW1 := Lib.hid hW2; have HG1 := Lib.hid hG2; have HS1 := Lib.hid (HS.out.wrote hW2 (by rintro j (e | e) <;> omega)); have y0 := err_nil w1 (.pointer (some (ad 1))); have y1 := err_eq w1 (ad 1); have g1 := HS1.out.cell 1 (by decide); clear c0 c1 hH2 hD2 hW2 hG2; have c0 := (cell_of HQ1.out.uf 0).trans rfl; have c1 := (cell_of HQ1.out.uf 1).trans rfl))
  go_ret2
  refine ⟨rfl, HQ1.out.got1 hH3 hs1 hW3, HG1.out.wrote hW3 hgo.f1, ?_⟩
  exact (HW1.out.mono (fun k _ e => e.elim (fun e => .inl (.inr e)) .inr)).trans (hW3.mono (fun k _ e => .inl (.inl e)))
set_option maxRecDepth 100000 in
set_option maxHeartbeats 2000000 in
theorem u54_no (g m : Nat) (hgo : Out w u f1 fd1 f2 fd2 dv1 dv2 g) (hgS : S ≤ g) (r : List Int) (k : Int) (hk : k ≠ 0) (hk4 : k ≠ 4) (hl : Calls Tryd.prog 33 #[.pointer (some ⟨f2, 0, none⟩), .slice (some ⟨g, 0, none⟩) m m] w fun e w' => ∃ v, e = .returned (.tuple #[.int .i64 (r.length : Int), v]) ∧ ErrIs S ad w' v k ∧ HandS w' f2 s2' fd2 ∧ DataIs w' B fd2 dv2 s2'.fd ∧ GotIn w' g m r ∧ Wrote (fun k => k = f2 ∨ k = g) w w') :
    Calls Tryd.prog 54 #[.pointer (some ⟨u, 0, none⟩), .slice (some ⟨g, 0, none⟩) m m] w fun e w' => ∃ v, e = .returned (.tuple #[.int .i64 (r.length : Int), v]) ∧ ErrIs S ad w' v k ∧ UQ w' B u f1 fd1 f2 fd2 dv1 dv2 s1 s2' ∧ GotIn w' g m r ∧ Wrote (fun k => (k = f1 ∨ k = f2) ∨ k = g) w w' := by
  have c0 := (cell_of hU.uf 0).trans rfl
  have c1 := (cell_of hU.uf 1).trans rfl
  have lo2 : S ≤ f2 := hlow f2 (.inr (.inl rfl))
  have HL := Lib.hid hl
  have HU := Lib.hid hU
  have HS := Lib.hid hS
  clear hl hU hS hlow
  go_enter Tryd.func54, Tryd.ntmps54
  go_wp2_with (go_at_call 33; refine HL.out.mono ?_; rintro e w1 ⟨v, rfl, hE, hH2, hD2, hG2, hW2⟩; obtain ⟨tv, av, rfl⟩ := hE.shape hk; have HQ1 := Lib.hid (HU.out.got2 hgo hH2 hD2 hW2); have HW1 := Lib.hid hW2; have HG1 := Lib.hid hG2; have HS1 := Lib.hid (HS.out.wrote hW2 (by rintro j (e | e) <;> omega)); have y0 := (hE.nilB w1).trans (by rw [decide_eq_false hk]); have y1 := (hE.eofB HS1.out).trans (by rw [decide_eq_false hk4]); have g1 := HS1.out.cell 1 (by decide); have HE := Lib.hid hE; clear c0 c1 hH2 hD2 hW2 hG2 hE; have c0 := (cell_of HQ1.out.uf 0).trans rfl; have c1 := (cell_of HQ1.out.uf 1).trans rfl)
  go_ret2
  exact ⟨_, rfl, HE.out, HQ1.out, HG1.out, HW1.out.mono (fun k _ e => e.elim (fun e => .inl (.inr e)) .inr)⟩
set_option maxRecDepth 100000 in
set_option maxHeartbeats 2000000 in
theorem u60_ok (hl : ∀ (w1 : World) (dv1' : Value), UQ w1 B u f1 fd1 f2 fd2 dv1' dv2 s1' s2 → Sents S w1 ad → Calls Tryd.prog 39 #[.pointer (some ⟨f2, 0, none⟩)] w1 fun e w' => e = .returned .nilIface ∧ LaidH w1 w' f2 B fd2 s2' dv2)
    (hb : Calls Tryd.prog 39 #[.pointer (some ⟨f1, 0, none⟩)] w fun e w' => e = .returned .nilIface ∧ LaidH w w' f1 B fd1 s1' dv1) :
    Calls Tryd.prog 60 #[.pointer (some ⟨u, 0, none⟩)] w fun e w' => e = .returned .nilIface ∧ UGo w w' B u f1 fd1 f2 fd2 dv1 dv2 s1' s2' := by
  have c0 := (cell_of hU.uf 0).trans rfl
  have c1 := (cell_of hU.uf 1).trans rfl
  have HL := Lib.hid hl
  have HB := Lib.hid hb
  have HU := Lib.hid hU
  have HS := Lib.hid hS
  have HW := Lib.hid hlow
  clear hl hb hU hS hlow
  go_enter Tryd.func60, Tryd.ntmps60
  go_wp2_with (first
    | (go_at_call 39; refine (HL.out w1 dv1' HQ1.out HS1.out).mono ?_; rintro e w2 ⟨rfl, hL2⟩)
    | (go_at_call 39; refine HB.out.mono ?_; rintro e w1 ⟨rfl, dv1', hH2, hD2, hW2, hN2⟩; have HQ1 := Lib.hid (HU.out.based' hH2 hD2 hW2 hN2); have HN1 := Lib.hid (show NewOr w dv1 dv1' from hN2); have HW1 := Lib.hid hW2; have HS1 := Lib.hid (HS.out.wrote hW2 (fun j hj => HW.out j (.inl hj))); clear c0 c1 hH2 hD2 hW2 hN2; have c0 := (cell_of HQ1.out.uf 0).trans rfl; have c1 := (cell_of HQ1.out.uf 1).trans rfl))
  go_ret
  exact ⟨rfl, UGo.trans HQ1.out (HW1.out.mono (fun _ _ h => .inl h)) HN1.out (.inl rfl) (HQ1.out.layered hL2)⟩
set_option maxRecDepth 100000 in
set_option maxHeartbeats 2000000 in
theorem u61_no (n k : Int) (hk : k ≠ 0) (hl : ∀ n' : Int, Calls Tryd.prog 40 #[.pointer (some ⟨f2, 0, none⟩), .int .i64 n'] w fun e w' => ∃ v, e = .returned (.tuple #[.slice none 0 0, v]) ∧ ErrIs S ad w' v k ∧ Below w.heap.size w w') :
    Calls Tryd.prog 61 #[.pointer (some ⟨u, 0, none⟩), .int .i64 n] w fun e w' => ∃ v, e = .returned (.tuple #[.slice none 0 0, v]) ∧ ErrIs S ad w' v k ∧ UQ w' B u f1 fd1 f2 fd2 dv1 dv2 s1 s2 ∧ Below w.heap.size w w' := by
  have c0 := (cell_of hU.uf 0).trans rfl
  have c1 := (cell_of hU.uf 1).trans rfl
  have c2 := (cell_of hU.uf 2).trans rfl
  have HL := Lib.hid hl
  have HU := Lib.hid hU
  clear hl hU hS hlow
  go_enter Tryd.func61, Tryd.ntmps61
  go_wp2_with (go_at_call 40; refine (HL.out _).mono ?_; rintro e w1 ⟨v, rfl, hE, hB⟩; obtain ⟨tv, av, rfl⟩ := hE.shape hk; have y0 := hE.neqB hk w1; have HE := Lib.hid hE; have HB := Lib.hid hB; clear hE hB)
  go_ret2
  exact ⟨_, rfl, HE.out, HU.out.below HB.out, HB.out⟩
set_option maxRecDepth 100000 in
set_option maxHeartbeats 2000000 in
theorem u62_no (n k : Int) (hk : k ≠ 0) (hl : ∀ n' : Int, Calls Tryd.prog 40 #[.pointer (some ⟨f2, 0, none⟩), .int .i64 n'] w fun e w' => ∃ v, e = .returned (.tuple #[.slice none 0 0, v]) ∧ ErrIs S ad w' v k ∧ Below w.heap.size w w') :
    Calls Tryd.prog 62 #[.pointer (some ⟨u, 0, none⟩), .int .i64 n] w fun e w' => ∃ v, e = .returned (.tuple #[.slice none 0 0, v]) ∧ ErrIs S ad w' v k ∧ UQ w' B u f1 fd1 f2 fd2 dv1 dv2 s1 s2 ∧ Below w.heap.size w w' := by
  have h61 := u61_no S B u f1 fd1 f2 fd2 ad dv1 dv2 s1 s2 w hS hlow hU n k hk hl
  have HL := Lib.hid h61
  clear hl hU hS hlow h61
  go_enter Tryd.func62, Tryd.ntmps62
  go_wp2_with (go_at_call 61; refine HL.out.mono ?_; rintro e w1 ⟨v, rfl, hE, hQ, hB⟩; obtain ⟨tv, av, rfl⟩ := hE.shape hk; have y0 := hE.neqB hk w1; have HE := Lib.hid hE; have HB := Lib.hid hB; have HQ := Lib.hid hQ; clear hE hB hQ)
  go_ret2
  exact ⟨_, rfl, HE.out, HQ.out, HB.out⟩
end
end Go.Proofs.YtnkhfdnahnphdaaDoor
end
section
namespace Go.Proofs.YtnkhfdnahnphdaaDoor
open Go.ChangeShapes Go.WideShapes Go.ChangeAt Go.RowKit Go.Rd
open Go.Proofs.YtnkhfdnahnphdaaDoorW.PrintWords Go.Proofs.YtnkhfdnahnphdaaDoorW.PrintLast Go.Proofs.YtnkhfdnahnphdaaDoorW.PrintMore
set_option linter.unusedVariables false
set_option linter.unusedSectionVars false
/-- What stays so as an answer's cells are written. -/
def Stab (n : Nat) (P : World → Prop) : Prop := ∀ (W : World) (p : Addr) (u : Value), P W → Typed W p.block 42 → n ≤ p.block → P (W.setCell p u)
/-- Behind a method: an error of kind k, and P; nothing but Fp was written. -/
structure Beh (S : Nat) (ad : Nat → Addr) (P : World → Prop) (Fp : Nat → Prop) (k : Int) (w : World) (v : Value) (w' : World) : Prop where
  e : ErrIs S ad w' v k
  p : P w'
  s : Sents S w' ad
  w : Wrote Fp w w'
section
variable {S : Nat} {ad : Nat → Addr} {P : World → Prop} {Fp : Nat → Prop} {k : Int} {w W w' : World} {v : Value}
theorem Beh.base (h : Beh S ad P Fp k W v w') (hb : Below w.heap.size w W) : Beh S ad P Fp k w v w' := ⟨h.e, h.p, h.s, (Wrote.of_below hb).trans h.w⟩
theorem Beh.set (h : Beh S ad P Fp k w v w') (hSt : Stab w.heap.size P) (hSw : S ≤ w.heap.size) {p : Addr} (ht : Typed w' p.block 42) (hn : w.heap.size ≤ p.block) (u : Value) : Beh S ad P Fp k w v (w'.setCell p u) :=
  ⟨h.e.set ht (by decide) u, hSt _ _ _ h.p ht hn, h.s.below ((Below.refl _ _).setCell (Nat.le_trans hSw hn) u), wrote_new h.w hn u⟩
theorem Beh.two (h : Beh S ad P Fp k w v w') : P w' ∧ Wrote Fp w w' := ⟨h.p, h.w⟩
theorem Beh.kind (h : Beh S ad P Fp k w v w') : Calls Tryd.prog 46 #[v] w' fun e w'' => e = .returned (.int .i64 k) ∧ w' = w'' := kind_any h.s h.e
theorem keep_at {b : Nat} {o : Obj} (hw : Wrote Fp W w') (hF : ∀ j, Fp j → j < w.heap.size) (hb : w.heap.size ≤ b) (ho : W.heap[b]? = some o) : w'.heap[b]? = some o :=
  (hw.block b (lt_of_heap ho) (fun e => by have := hF b e; omega)).trans ho
end
/-- An answer that tells names, too. -/
def ansNames (e n off : Int) (dv nv : Value) : Value := .agg #[.int .i64 e, .int .i64 n, .int .i64 off, dv, nv, .slice none 0 0]
theorem infos_none (w : World) : Calls Tryd.prog 41 #[.slice none 0 0] w fun e w' => e = .returned (.slice none 0 0) ∧ w = w' := by
  go_enter Tryd.func41, Tryd.ntmps41
  go_wp2_with fail
  go_loopw [3, 8] (fun a i wr => a = .slice none 0 0 ∧ i = .int .i64 0 ∧ wr = w) (fun _ _ _ => 0)
  case atStart => exact ⟨rfl, rfl, rfl⟩
  case round =>
    obtain ⟨rfl, rfl, rfl⟩ := hrel
    go_wp2_with fail
    go_ret
    exact ⟨rfl, rfl⟩
end Go.Proofs.YtnkhfdnahnphdaaDoor
end
section
namespace Go.Proofs.YtnkhfdnahnphdaaDoor
open Go.ChangeShapes Go.WideShapes Go.ChangeAt Go.RowKit Go.Rd
open Go.Proofs.YtnkhfdnahnphdaaDoorW.PrintWords Go.Proofs.YtnkhfdnahnphdaaDoorW.PrintLast Go.Proofs.YtnkhfdnahnphdaaDoorW.PrintMore
set_option linter.unusedVariables false
set_option linter.unusedSectionVars false
section
variable (f S : Nat) (ad : Nat → Addr) (P : World → Prop) (Fp : Nat → Prop) (k : Int) (s : Stp) (w : World) (hSt : Stab w.heap.size P) (hSw : S ≤ w.heap.size) (hF : ∀ j, Fp j → j < w.heap.size)
include hSt hSw hF
set_option maxRecDepth 100000 in
set_option maxHeartbeats 2000000 in
theorem o30_seek (n : Int) (hop : s.op = 16) (hm : ∀ W : World, Below w.heap.size w W → Calls Tryd.prog 58 #[.pointer (some ⟨f, 0, none⟩), .int .i64 s.off, .int .i64 s.wh] W fun e w' => ∃ v, e = .returned (.tuple #[.int .i64 n, v]) ∧ Beh S ad P Fp k W v w') :
    Calls Tryd.prog 30 #[.pointer (some ⟨f, 0, none⟩), s.val] w fun e w' => e = .returned (ansVal k 0 n (.slice none 0 0)) ∧ P w' ∧ Wrote Fp w w' := by
  obtain ⟨op, name, other, flag, perm, hh, da, dl, dc, off, wh, nn⟩ := s
  simp only at hop hm
  subst hop
  unfold Stp.val ansVal
  simp only
  have HM := Lib.hid hm
  clear hm
  go_enter Tryd.func30, Tryd.ntmps30
  go_wp2_with (first
    | (go_at_call 58; refine (HM.out _ (below3 _ _ _ _)).mono ?_; rintro e w4 ⟨v, rfl, hB⟩; have k1 := keep_at hB.w hF (Nat.le_add_right _ 1) (second_new _ _ _ _); have k2 := keep_at hB.w hF (by omega) (third_new _ _ _ _); obtain ⟨⟨p0, p1, p2, p3, p4, p5⟩, q0, q1, q2, q3, q4, q5⟩ := cells6 k1; obtain ⟨⟨r0, r1, r2, r3, r4, r5⟩, t0, t1, t2, t3, t4, t5⟩ := cells6 k2; have T1 := Typed.of k1; have T2 := Typed.of k2; clear k1 k2; have hB4 := hB.base (below3 w _ _ _); clear hB)
    | (go_at_call 46; refine (Beh.kind (S := S) (ad := ad) (P := P) (Fp := Fp) (k := k) (w := w) (by repeat (first | with_reducible exact hB4 | (with_reducible refine Beh.set ?_ hSt hSw ?_ ?_ _; rotate_left; (repeat (first | with_reducible exact T1 | with_reducible exact T2 | with_reducible refine Typed.set ?_ _ _)); (simp only []; omega))))).mono ?_; rintro e w5 ⟨rfl, rfl⟩))
  refine bodyPost_ret (v := ansVal k 0 n (.slice none 0 0)) (by simp [results, Tryd.results30, go_sem, ansVal, p0, p1, p2, p3, p4, p5]) rfl ?_
  refine ⟨rfl, Beh.two (S := S) (ad := ad) (k := k) (v := v) ?_⟩
  repeat (first | with_reducible exact hB4 | (with_reducible refine Beh.set ?_ hSt hSw ?_ ?_ _; rotate_left; (repeat (first | with_reducible exact T1 | with_reducible exact T2 | with_reducible refine Typed.set ?_ _ _)); (simp only []; omega)))
set_option maxRecDepth 100000 in
set_option maxHeartbeats 2000000 in
theorem o30_trunc (hop : s.op = 17) (hm : ∀ W : World, Below w.heap.size w W → Calls Tryd.prog 59 #[.pointer (some ⟨f, 0, none⟩), .int .i64 s.off] W fun e w' => ∃ v, e = .returned (v) ∧ Beh S ad P Fp k W v w') :
    Calls Tryd.prog 30 #[.pointer (some ⟨f, 0, none⟩), s.val] w fun e w' => e = .returned (ansVal k 0 0 (.slice none 0 0)) ∧ P w' ∧ Wrote Fp w w' := by
  obtain ⟨op, name, other, flag, perm, hh, da, dl, dc, off, wh, nn⟩ := s
  simp only at hop hm
  subst hop
  unfold Stp.val ansVal
  simp only
  have HM := Lib.hid hm
  clear hm
  go_enter Tryd.func30, Tryd.ntmps30
  go_wp2_with (first
    | (go_at_call 59; refine (HM.out _ (below3 _ _ _ _)).mono ?_; rintro e w4 ⟨v, rfl, hB⟩; have k1 := keep_at hB.w hF (Nat.le_add_right _ 1) (second_new _ _ _ _); have k2 := keep_at hB.w hF (by omega) (third_new _ _ _ _); obtain ⟨⟨p0, p1, p2, p3, p4, p5⟩, q0, q1, q2, q3, q4, q5⟩ := cells6 k1; obtain ⟨⟨r0, r1, r2, r3, r4, r5⟩, t0, t1, t2, t3, t4, t5⟩ := cells6 k2; have T1 := Typed.of k1; have T2 := Typed.of k2; clear k1 k2; have hB4 := hB.base (below3 w _ _ _); clear hB)
    | (go_at_call 46; refine (Beh.kind (S := S) (ad := ad) (P := P) (Fp := Fp) (k := k) (w := w) (by repeat (first | with_reducible exact hB4 | (with_reducible refine Beh.set ?_ hSt hSw ?_ ?_ _; rotate_left; (repeat (first | with_reducible exact T1 | with_reducible exact T2 | with_reducible refine Typed.set ?_ _ _)); (simp only []; omega))))).mono ?_; rintro e w5 ⟨rfl, rfl⟩))
  refine bodyPost_ret (v := ansVal k 0 0 (.slice none 0 0)) (by simp [results, Tryd.results30, go_sem, ansVal, p0, p1, p2, p3, p4, p5]) rfl ?_
  refine ⟨rfl, Beh.two (S := S) (ad := ad) (k := k) (v := v) ?_⟩
  repeat (first | with_reducible exact hB4 | (with_reducible refine Beh.set ?_ hSt hSw ?_ ?_ _; rotate_left; (repeat (first | with_reducible exact T1 | with_reducible exact T2 | with_reducible refine Typed.set ?_ _ _)); (simp only []; omega)))
set_option maxRecDepth 100000 in
set_option maxHeartbeats 2000000 in
theorem o30_close (hop : s.op = 18) (hm : ∀ W : World, Below w.heap.size w W → Calls Tryd.prog 60 #[.pointer (some ⟨f, 0, none⟩)] W fun e w' => ∃ v, e = .returned (v) ∧ Beh S ad P Fp k W v w') :
    Calls Tryd.prog 30 #[.pointer (some ⟨f, 0, none⟩), s.val] w fun e w' => e = .returned (ansVal k 0 0 (.slice none 0 0)) ∧ P w' ∧ Wrote Fp w w' := by
  obtain ⟨op, name, other, flag, perm, hh, da, dl, dc, off, wh, nn⟩ := s
  simp only at hop hm
  subst hop
  unfold Stp.val ansVal
  simp only
  have HM := Lib.hid hm
  clear hm
  go_enter Tryd.func30, Tryd.ntmps30
  go_wp2_with (first
    | (go_at_call 60; refine (HM.out _ (below3 _ _ _ _)).mono ?_; rintro e w4 ⟨v, rfl, hB⟩; have k1 := keep_at hB.w hF (Nat.le_add_right _ 1) (second_new _ _ _ _); have k2 := keep_at hB.w hF (by omega) (third_new _ _ _ _); obtain ⟨⟨p0, p1, p2, p3, p4, p5⟩, q0, q1, q2, q3, q4, q5⟩ := cells6 k1; obtain ⟨⟨r0, r1, r2, r3, r4, r5⟩, t0, t1, t2, t3, t4, t5⟩ := cells6 k2; have T1 := Typed.of k1; have T2 := Typed.of k2; clear k1 k2; have hB4 := hB.base (below3 w _ _ _); clear hB)
    | (go_at_call 46; refine (Beh.kind (S := S) (ad := ad) (P := P) (Fp := Fp) (k := k) (w := w) (by repeat (first | with_reducible exact hB4 | (with_reducible refine Beh.set ?_ hSt hSw ?_ ?_ _; rotate_left; (repeat (first | with_reducible exact T1 | with_reducible exact T2 | with_reducible refine Typed.set ?_ _ _)); (simp only []; omega))))).mono ?_; rintro e w5 ⟨rfl, rfl⟩))
  refine bodyPost_ret (v := ansVal k 0 0 (.slice none 0 0)) (by simp [results, Tryd.results30, go_sem, ansVal, p0, p1, p2, p3, p4, p5]) rfl ?_
  refine ⟨rfl, Beh.two (S := S) (ad := ad) (k := k) (v := v) ?_⟩
  repeat (first | with_reducible exact hB4 | (with_reducible refine Beh.set ?_ hSt hSw ?_ ?_ _; rotate_left; (repeat (first | with_reducible exact T1 | with_reducible exact T2 | with_reducible refine Typed.set ?_ _ _)); (simp only []; omega)))
set_option maxRecDepth 100000 in
set_option maxHeartbeats 2000000 in
theorem o30_sync (hop : s.op = 23) (hm : ∀ W : World, Below w.heap.size w W → Calls Tryd.prog 66 #[.pointer (some ⟨f, 0, none⟩)] W fun e w' => ∃ v, e = .returned (v) ∧ Beh S ad P Fp k W v w') :
    Calls Tryd.prog 30 #[.pointer (some ⟨f, 0, none⟩), s.val] w fun e w' => e = .returned (ansVal k 0 0 (.slice none 0 0)) ∧ P w' ∧ Wrote Fp w w' := by
  obtain ⟨op, name, other, flag, perm, hh, da, dl, dc, off, wh, nn⟩ := s
  simp only at hop hm
  subst hop
  unfold Stp.val ansVal
  simp only
  have HM := Lib.hid hm
  clear hm
  go_enter Tryd.func30, Tryd.ntmps30
  go_wp2_with (first
    | (go_at_call 66; refine (HM.out _ (below3 _ _ _ _)).mono ?_; rintro e w4 ⟨v, rfl, hB⟩; have k1 := keep_at hB.w hF (Nat.le_add_right _ 1) (second_new _ _ _ _); have k2 := keep_at hB.w hF (by omega) (third_new _ _ _ _); obtain ⟨⟨p0, p1, p2, p3, p4, p5⟩, q0, q1, q2, q3, q4, q5⟩ := cells6 k1; obtain ⟨⟨r0, r1, r2, r3, r4, r5⟩, t0, t1, t2, t3, t4, t5⟩ := cells6 k2; have T1 := Typed.of k1; have T2 := Typed.of k2; clear k1 k2; have hB4 := hB.base (below3 w _ _ _); clear hB)
    | (go_at_call 46; refine (Beh.kind (S := S) (ad := ad) (P := P) (Fp := Fp) (k := k) (w := w) (by repeat (first | with_reducible exact hB4 | (with_reducible refine Beh.set ?_ hSt hSw ?_ ?_ _; rotate_left; (repeat (first | with_reducible exact T1 | with_reducible exact T2 | with_reducible refine Typed.set ?_ _ _)); (simp only []; omega))))).mono ?_; rintro e w5 ⟨rfl, rfl⟩))
  refine bodyPost_ret (v := ansVal k 0 0 (.slice none 0 0)) (by simp [results, Tryd.results30, go_sem, ansVal, p0, p1, p2, p3, p4, p5]) rfl ?_
  refine ⟨rfl, Beh.two (S := S) (ad := ad) (k := k) (v := v) ?_⟩
  repeat (first | with_reducible exact hB4 | (with_reducible refine Beh.set ?_ hSt hSw ?_ ?_ _; rotate_left; (repeat (first | with_reducible exact T1 | with_reducible exact T2 | with_reducible refine Typed.set ?_ _ _)); (simp only []; omega)))
set_option maxRecDepth 100000 in
set_option maxHeartbeats 2000000 in
theorem o30_list (hop : s.op = 19) (hm : ∀ W : World, Below w.heap.size w W → Calls Tryd.prog 61 #[.pointer (some ⟨f, 0, none⟩), .int .i64 s.n] W fun e w' => ∃ v, e = .returned (.tuple #[.slice none 0 0, v]) ∧ Beh S ad P Fp k W v w') :
    Calls Tryd.prog 30 #[.pointer (some ⟨f, 0, none⟩), s.val] w fun e w' => e = .returned (ansVal k 0 0 (.slice none 0 0)) ∧ P w' ∧ Wrote Fp w w' := by
  obtain ⟨op, name, other, flag, perm, hh, da, dl, dc, off, wh, nn⟩ := s
  simp only at hop hm
  subst hop
  unfold Stp.val ansVal
  simp only
  have HM := Lib.hid hm
  clear hm
  go_enter Tryd.func30, Tryd.ntmps30
  go_wp2_with (first
    | (go_at_call 61; refine (HM.out _ (below3 _ _ _ _)).mono ?_; rintro e w4 ⟨v, rfl, hB⟩; have k1 := keep_at hB.w hF (Nat.le_add_right _ 1) (second_new _ _ _ _); have k2 := keep_at hB.w hF (by omega) (third_new _ _ _ _); obtain ⟨⟨p0, p1, p2, p3, p4, p5⟩, q0, q1, q2, q3, q4, q5⟩ := cells6 k1; obtain ⟨⟨r0, r1, r2, r3, r4, r5⟩, t0, t1, t2, t3, t4, t5⟩ := cells6 k2; have T1 := Typed.of k1; have T2 := Typed.of k2; clear k1 k2; have hB4 := hB.base (below3 w _ _ _); clear hB)
    | (go_at_call 41; refine (infos_none _).mono ?_; rintro e w6 ⟨rfl, rfl⟩)
    | (go_at_call 46; refine (Beh.kind (S := S) (ad := ad) (P := P) (Fp := Fp) (k := k) (w := w) (by repeat (first | with_reducible exact hB4 | (with_reducible refine Beh.set ?_ hSt hSw ?_ ?_ _; rotate_left; (repeat (first | with_reducible exact T1 | with_reducible exact T2 | with_reducible refine Typed.set ?_ _ _)); (simp only []; omega))))).mono ?_; rintro e w5 ⟨rfl, rfl⟩))
  refine bodyPost_ret (v := ansVal k 0 0 (.slice none 0 0)) (by simp [results, Tryd.results30, go_sem, ansVal, p0, p1, p2, p3, p4, p5]) rfl ?_
  refine ⟨rfl, Beh.two (S := S) (ad := ad) (k := k) (v := v) ?_⟩
  repeat (first | with_reducible exact hB4 | (with_reducible refine Beh.set ?_ hSt hSw ?_ ?_ _; rotate_left; (repeat (first | with_reducible exact T1 | with_reducible exact T2 | with_reducible refine Typed.set ?_ _ _)); (simp only []; omega)))
set_option maxRecDepth 100000 in
set_option maxHeartbeats 2000000 in
theorem o30_names (Pn : Option Addr → Nat → Prop) (hop : s.op = 20) (hm : ∀ W : World, Below w.heap.size w W → Calls Tryd.prog 62 #[.pointer (some ⟨f, 0, none⟩), .int .i64 s.n] W fun e w' => ∃ v na nc, e = .returned (.tuple #[.slice na 0 nc, v]) ∧ Pn na nc ∧ Beh S ad P Fp k W v w') :
    Calls Tryd.prog 30 #[.pointer (some ⟨f, 0, none⟩), s.val] w fun e w' => ∃ na nc, e = .returned (ansNames k 0 0 (.slice none 0 0) (.slice na 0 nc)) ∧ Pn na nc ∧ P w' ∧ Wrote Fp w w' := by
  obtain ⟨op, name, other, flag, perm, hh, da, dl, dc, off, wh, nn⟩ := s
  simp only at hop hm
  subst hop
  unfold Stp.val ansNames
  simp only
  have HM := Lib.hid hm
  clear hm
  go_enter Tryd.func30, Tryd.ntmps30
  go_wp2_with (first
    | (go_at_call 62; refine (HM.out _ (below3 _ _ _ _)).mono ?_; rintro e w4 ⟨v, na, nc, rfl, hpn, hB⟩; have k1 := keep_at hB.w hF (Nat.le_add_right _ 1) (second_new _ _ _ _); have k2 := keep_at hB.w hF (by omega) (third_new _ _ _ _); obtain ⟨⟨p0, p1, p2, p3, p4, p5⟩, q0, q1, q2, q3, q4, q5⟩ := cells6 k1; obtain ⟨⟨r0, r1, r2, r3, r4, r5⟩, t0, t1, t2, t3, t4, t5⟩ := cells6 k2; have T1 := Typed.of k1; have T2 := Typed.of k2; clear k1 k2; have hB4 := hB.base (below3 w _ _ _); clear hB)
    | (go_at_call 46; refine (Beh.kind (S := S) (ad := ad) (P := P) (Fp := Fp) (k := k) (w := w) (by repeat (first | with_reducible exact hB4 | (with_reducible refine Beh.set ?_ hSt hSw ?_ ?_ _; rotate_left; (repeat (first | with_reducible exact T1 | with_reducible exact T2 | with_reducible refine Typed.set ?_ _ _)); (simp only []; omega))))).mono ?_; rintro e w5 ⟨rfl, rfl⟩))
  refine bodyPost_ret (v := ansNames k 0 0 (.slice none 0 0) (.slice na 0 nc)) (by simp [results, Tryd.results30, go_sem, ansNames, p0, p1, p2, p3, p4, p5]) rfl ?_
  refine ⟨_, _, rfl, hpn, Beh.two (S := S) (ad := ad) (k := k) (v := v) ?_⟩
  repeat (first | with_reducible exact hB4 | (with_reducible refine Beh.set ?_ hSt hSw ?_ ?_ _; rotate_left; (repeat (first | with_reducible exact T1 | with_reducible exact T2 | with_reducible refine Typed.set ?_ _ _)); (simp only []; omega)))
set_option maxRecDepth 100000 in
set_option maxHeartbeats 2000000 in
theorem o30_write (n : Int) (b : List Int) (hop : s.op = 14) (hb : BytesIn w s.da s.dl s.dc b) (hdl : s.dl ≤ 4294967296) (hm : ∀ (W : World) (A : Option Addr) (c : Nat), Below w.heap.size w W → BytesIn W A s.dl c b → (∀ y, A = some y → w.heap.size ≤ y.block) → Calls Tryd.prog 56 #[.pointer (some ⟨f, 0, none⟩), .slice A s.dl c] W fun e w' => ∃ v, e = .returned (.tuple #[.int .i64 n, v]) ∧ Beh S ad P Fp k W v w') :
    Calls Tryd.prog 30 #[.pointer (some ⟨f, 0, none⟩), s.val] w fun e w' => e = .returned (ansVal k n 0 (.slice none 0 0)) ∧ P w' ∧ Wrote Fp w w' := by
  obtain ⟨op, name, other, flag, perm, hh, da, dl, dc, off, wh, nn⟩ := s
  simp only at hop hm hb hdl
  subst hop
  unfold Stp.val ansVal
  simp only
  have HM := Lib.hid hm
  clear hm
  go_enter Tryd.func30, Tryd.ntmps30
  go_wp2_with (at_builtin; refine append_src rfl (.const (.slice none 0 0)) (.tmp 60) 22 rfl (w.heap.size + 1 + 1 + 1) 5 _ (.int .u8 0) 1 1 Tryd.underlying22 rfl rfl rfl rfl rfl (by decide) (.slice none 0 0) 0 [] rfl (World.ownsRow_nil _ _ _ _) da dl dc (b.map (Value.int .u8)) rfl (hb.src).1 hb.nil (hb.below (below3 _ _ _ _)).cells (hb.src).2.2.2 (by unfold maxLen; omega) (by omega) (by simp) ?_; intro v1 w1 ho1 hg1)
  rw [Nat.zero_add, List.nil_append] at ho1
  obtain ⟨A1, c1, ev1, hb1⟩ := BytesIn.own ho1 hb.fits
  subst ev1
  have hB1 : Below w.heap.size w w1 := (below3 w _ _ _).trans ⟨hg1.os, hg1.tape, hg1.output, hg1.size, fun k hk => hg1.block k (by simp; omega) (by simp [Value.ownBlock])⟩
  have k1 := (hg1.block _ (by simp) (by simp [Value.ownBlock])).trans (second_new w _ _ _)
  have k2 := (hg1.block _ (by simp) (by simp [Value.ownBlock])).trans (third_new w _ _ _)
  have hA1 : ∀ y, A1 = some y → w.heap.size ≤ y.block := fun y hy => by
    subst hy
    have := own_base ho1 y.block rfl
    omega
  refine (HM.out w1 A1 c1 hB1 hb1 hA1).mono ?_
  rintro e w4 ⟨v, rfl, hB⟩
  have k1 := keep_at hB.w hF (Nat.le_add_right _ 1) k1
  have k2 := keep_at hB.w hF (by omega) k2
  obtain ⟨⟨p0, p1, p2, p3, p4, p5⟩, q0, q1, q2, q3, q4, q5⟩ := cells6 k1; obtain ⟨⟨r0, r1, r2, r3, r4, r5⟩, t0, t1, t2, t3, t4, t5⟩ := cells6 k2; have T1 := Typed.of k1; have T2 := Typed.of k2; clear k1 k2
  have hB4 := hB.base hB1
  clear hB
  go_wp2_with (go_at_call 46; refine (Beh.kind (S := S) (ad := ad) (P := P) (Fp := Fp) (k := k) (w := w) (by repeat (first | with_reducible exact hB4 | (with_reducible refine Beh.set ?_ hSt hSw ?_ ?_ _; rotate_left; (repeat (first | with_reducible exact T1 | with_reducible exact T2 | with_reducible refine Typed.set ?_ _ _)); (simp only []; omega))))).mono ?_; rintro e w5 ⟨rfl, rfl⟩)
  refine bodyPost_ret (v := ansVal k n 0 (.slice none 0 0)) (by simp [results, Tryd.results30, go_sem, ansVal, p0, p1, p2, p3, p4, p5]) rfl ?_
  refine ⟨rfl, Beh.two (S := S) (ad := ad) (k := k) (v := v) ?_⟩
  repeat (first | with_reducible exact hB4 | (with_reducible refine Beh.set ?_ hSt hSw ?_ ?_ _; rotate_left; (repeat (first | with_reducible exact T1 | with_reducible exact T2 | with_reducible refine Typed.set ?_ _ _)); (simp only []; omega)))
set_option maxRecDepth 100000 in
set_option maxHeartbeats 2000000 in
theorem o30_write_at (n : Int) (b : List Int) (hop : s.op = 15) (hb : BytesIn w s.da s.dl s.dc b) (hdl : s.dl ≤ 4294967296) (hm : ∀ (W : World) (A : Option Addr) (c : Nat), Below w.heap.size w W → BytesIn W A s.dl c b → (∀ y, A = some y → w.heap.size ≤ y.block) → Calls Tryd.prog 57 #[.pointer (some ⟨f, 0, none⟩), .slice A s.dl c, .int .i64 s.off] W fun e w' => ∃ v, e = .returned (.tuple #[.int .i64 n, v]) ∧ Beh S ad P Fp k W v w') :
    Calls Tryd.prog 30 #[.pointer (some ⟨f, 0, none⟩), s.val] w fun e w' => e = .returned (ansVal k n 0 (.slice none 0 0)) ∧ P w' ∧ Wrote Fp w w' := by
  obtain ⟨op, name, other, flag, perm, hh, da, dl, dc, off, wh, nn⟩ := s
  simp only at hop hm hb hdl
  subst hop
  unfold Stp.val ansVal
  simp only
  have HM := Lib.hid hm
  clear hm
  go_enter Tryd.func30, Tryd.ntmps30
  go_upto_region 18 with fail
  have h0 := first_new w (.cells #[.int .i64 15, .string name, .string other, .int .i64 flag, .int .i64 perm, .int .i64 hh, .slice da dl dc, .int .i64 off, .int .i64 wh, .int .i64 nn] 33) (.cells #[.int .i64 0, .int .i64 0, .int .i64 0, .slice none 0 0, .slice none 0 0, .slice none 0 0] 42) (.cells #[.int .i64 0, .int .i64 0, .int .i64 0, .slice none 0 0, .slice none 0 0, .slice none 0 0] 42)
  have h1 := second_new w (.cells #[.int .i64 15, .string name, .string other, .int .i64 flag, .int .i64 perm, .int .i64 hh, .slice da dl dc, .int .i64 off, .int .i64 wh, .int .i64 nn] 33) (.cells #[.int .i64 0, .int .i64 0, .int .i64 0, .slice none 0 0, .slice none 0 0, .slice none 0 0] 42) (.cells #[.int .i64 0, .int .i64 0, .int .i64 0, .slice none 0 0, .slice none 0 0, .slice none 0 0] 42)
  have h2 := third_new w (.cells #[.int .i64 15, .string name, .string other, .int .i64 flag, .int .i64 perm, .int .i64 hh, .slice da dl dc, .int .i64 off, .int .i64 wh, .int .i64 nn] 33) (.cells #[.int .i64 0, .int .i64 0, .int .i64 0, .slice none 0 0, .slice none 0 0, .slice none 0 0] 42) (.cells #[.int .i64 0, .int .i64 0, .int .i64 0, .slice none 0 0, .slice none 0 0, .slice none 0 0] 42)
  have hb3 := below3 w (.cells #[.int .i64 15, .string name, .string other, .int .i64 flag, .int .i64 perm, .int .i64 hh, .slice da dl dc, .int .i64 off, .int .i64 wh, .int .i64 nn] 33) (.cells #[.int .i64 0, .int .i64 0, .int .i64 0, .slice none 0 0, .slice none 0 0, .slice none 0 0] 42) (.cells #[.int .i64 0, .int .i64 0, .int .i64 0, .slice none 0 0, .slice none 0 0, .slice none 0 0] 42)
  generalize ((w.alloc (.cells #[.int .i64 15, .string name, .string other, .int .i64 flag, .int .i64 perm, .int .i64 hh, .slice da dl dc, .int .i64 off, .int .i64 wh, .int .i64 nn] 33)).alloc (.cells #[.int .i64 0, .int .i64 0, .int .i64 0, .slice none 0 0, .slice none 0 0, .slice none 0 0] 42)).alloc (.cells #[.int .i64 0, .int .i64 0, .int .i64 0, .slice none 0 0, .slice none 0 0, .slice none 0 0] 42) = W3 at *
  have hn2 := lt_of_heap h2
  have s6 := (cell_of h0 6).trans rfl
  have s7 := (cell_of h0 7).trans rfl
  have hR := run_dup (P := Tryd.prog) (w := W3.drew) 22 22 5 Tryd.underlying22 infoU8 da dl dc b ((hb.below hb3).below ((Below.refl _ _).drew)) (by omega)
  have HR := Lib.hid hR
  clear hR
  go_region_law (first
    | (refine step_append_run rfl (.const (.slice none 0 0)) (.tmp 71) 22 rfl (.slice none 0 0) (.slice da dl dc) (by simp [Act.eval]) (by simp [Act.eval]) _ HR.out ?_; rintro v1 w1 ⟨A2, c2, ev1, hb2, hbl2, _, hbe2⟩; subst ev1; have s7' := (hbe2.cell (p := ⟨w.heap.size, 7, none⟩) (by show w.heap.size < W3.heap.size; omega)).trans s7)
    | (go_simp; go_at_call 57; have hBx : Below w.heap.size w w1 := hb3.trans (Below.mono (w := W3) (w' := w1) ⟨hbe2.os, hbe2.tape, hbe2.output, hbe2.size, hbe2.block⟩ hb3.size); refine (HM.out w1 A2 c2 hBx hb2 (fun y hy => by have := hbl2 y hy; have hs : W3.drew.heap.size = W3.heap.size := rfl; have := hb3.size; omega)).mono ?_; rintro e w4 ⟨v, rfl, hB⟩; have k1 := keep_at hB.w hF (Nat.le_add_right _ 1) ((hbe2.block (w.heap.size + 1) (by show w.heap.size + 1 < W3.heap.size; omega)).trans h1); have k2 := keep_at hB.w hF (by omega) ((hbe2.block (w.heap.size + 1 + 1) (by show w.heap.size + 1 + 1 < W3.heap.size; omega)).trans h2); obtain ⟨⟨p0, p1, p2, p3, p4, p5⟩, q0, q1, q2, q3, q4, q5⟩ := cells6 k1; obtain ⟨⟨r0, r1, r2, r3, r4, r5⟩, t0, t1, t2, t3, t4, t5⟩ := cells6 k2))
  all_goals
    have T1 := Typed.of k1
    have T2 := Typed.of k2
    clear k1 k2
    have hB4 := hB.base hBx
    clear hB
    go_wp2_with (go_at_call 46; refine (Beh.kind (S := S) (ad := ad) (P := P) (Fp := Fp) (k := k) (w := w) (by repeat (first | with_reducible exact hB4 | (with_reducible refine Beh.set ?_ hSt hSw ?_ ?_ _; rotate_left; (repeat (first | with_reducible exact T1 | with_reducible exact T2 | with_reducible refine Typed.set ?_ _ _)); (simp only []; omega))))).mono ?_; rintro e w5 ⟨rfl, rfl⟩)
    refine bodyPost_ret (v := ansVal k n 0 (.slice none 0 0)) (by simp [results, Tryd.results30, go_sem, ansVal, p0, p1, p2, p3, p4, p5]) rfl ?_
    refine ⟨rfl, Beh.two (S := S) (ad := ad) (k := k) (v := v) ?_⟩
    repeat (first | with_reducible exact hB4 | (with_reducible refine Beh.set ?_ hSt hSw ?_ ?_ _; rotate_left; (repeat (first | with_reducible exact T1 | with_reducible exact T2 | with_reducible refine Typed.set ?_ _ _)); (simp only []; omega)))
/-- What a step that reads leaves. -/
def Read30 (w : World) (P : World → Prop) (Fp : Nat → Prop) (n : Nat) (k : Int) (r : List Int) (e : Ending) (w' : World) : Prop :=
  ∃ A c, e = .returned (ansVal k 0 0 (.slice A n c)) ∧ BytesIn w' A n c r ∧ (∀ y, A = some y → w.heap.size ≤ y.block ∧ y.block < w'.heap.size) ∧ P w' ∧ Wrote Fp w w'
set_option maxRecDepth 100000 in
set_option maxHeartbeats 2000000 in
theorem o30_read (m n : Nat) (r : List Int) (hop : s.op = 12) (hn : s.n = (m : Int)) (hmm : m ≤ 1000000) (hrl : r.length = n) (hnm : n ≤ m) (hfit : ∀ x ∈ r, 0 ≤ x ∧ x ≤ 255) (hm : ∀ (W : World) (g : Nat) (cur : Array Value), Below w.heap.size w W → w.heap.size ≤ g → cur.size = m → W.heap[g]? = some (.cells cur 5 (0, 0)) → Calls Tryd.prog 54 #[.pointer (some ⟨f, 0, none⟩), .slice (some ⟨g, 0, none⟩) m m] W fun e w' => ∃ v, e = .returned (.tuple #[.int .i64 (r.length : Int), v]) ∧ GotIn w' g m r ∧ Beh S ad P (fun j => Fp j ∨ j = g) k W v w') :
    Calls Tryd.prog 30 #[.pointer (some ⟨f, 0, none⟩), s.val] w (Read30 w P Fp n k r) := by
  obtain ⟨op, name, other, flag, perm, hh, da, dl, dc, off, wh, nn⟩ := s
  simp only at hop hn
  subst hop hn
  unfold Stp.val
  simp only
  have HRL := Lib.hid hrl
  have HM := Lib.hid hm
  clear hrl hm
  obtain ⟨i0, hi, hzz⟩ := Option.map_eq_some_iff.1 infoU8
  simp only [Prod.mk.injEq] at hzz
  rcases Nat.eq_zero_or_pos m with rfl | hpos
  · obtain ⟨Z, hZ, hZs, hmk⟩ := make_run (P := Tryd.prog) (t := 22) Tryd.underlying22 hi hzz.1 0 (by omega) (by unfold maxLen; omega)
    have hZm : Z.size = 0 := by rw [hZs, hzz.2.1]
    have HZ := Lib.hid hZm
    have hmk0 : ∀ W : World, (Instr.makeSlice 22 (.int .i64 0) (.int .i64 0)).run Tryd.prog W = .ok (.slice (some ⟨W.heap.size, 0, none⟩) 0 0) (W.alloc (.cells Z 5)) := hmk
    clear hmk hZ hZs hzz hi hZm
    obtain rfl : n = 0 := by omega
    go_enter Tryd.func30, Tryd.ntmps30
    go_wp2_with fail
    refine (HM.out _ _ Z (below4 _ _ _ _ _) (by omega) HZ.out (fourth_new _ _ _ _ _)).mono ?_
    rw [HRL.out]
    rintro e w4 ⟨v, rfl, hG4, hB⟩
    have k1 := (hB.w.block _ (by simp <;> omega) (by rintro (e | e) <;> first | (have := hF _ e; omega) | omega)).trans (second_new4 _ _ _ _ _)
    have k2 := (hB.w.block _ (by simp <;> omega) (by rintro (e | e) <;> first | (have := hF _ e; omega) | omega)).trans (third_new4 _ _ _ _ _)
    have hB4 : Beh S ad P Fp k w v w4 := ⟨hB.e, hB.p, hB.s, ((Wrote.of_below (S := fun j => Fp j ∨ j = w.heap.size + 1 + 1 + 1) (below4 w _ _ _ _)).trans hB.w).mono (fun j hj e => by
      rcases e with e | e
      · exact e
      · omega)⟩
    clear hB
    obtain ⟨⟨p0, p1, p2, p3, p4, p5⟩, q0, q1, q2, q3, q4, q5⟩ := cells6 k1; obtain ⟨⟨r0, r1, r2, r3, r4, r5⟩, t0, t1, t2, t3, t4, t5⟩ := cells6 k2; have T1 := Typed.of k1; have T2 := Typed.of k2; clear k1 k2
    go_wp2_with (go_at_call 46; refine (Beh.kind (S := S) (ad := ad) (P := P) (Fp := Fp) (k := k) (w := w) (by repeat (first | with_reducible exact hB4 | (with_reducible refine Beh.set ?_ hSt hSw ?_ ?_ _; rotate_left; (repeat (first | with_reducible exact T1 | with_reducible exact T2 | with_reducible refine Typed.set ?_ _ _)); (simp only []; omega))))).mono ?_; rintro e w5 ⟨rfl, rfl⟩)
    refine bodyPost_ret (v := ansVal k 0 0 (.slice (some ⟨w.heap.size + 1 + 1 + 1, 0, none⟩) 0 0)) (by simp [results, Tryd.results30, go_sem, ansVal, p0, p1, p2, p3, p4, p5]) rfl ?_
    refine ⟨_, _, rfl, ?_, ?_, Beh.two (S := S) (ad := ad) (k := k) (v := v) ?_⟩
    rotate_right
    · repeat (first | with_reducible exact hB4 | (with_reducible refine Beh.set ?_ hSt hSw ?_ ?_ _; rotate_left; (repeat (first | with_reducible exact T1 | with_reducible exact T2 | with_reducible refine Typed.set ?_ _ _)); (simp only []; omega)))
    · refine GotIn.bytes ?_ HRL.out (Nat.le_refl _) (by omega) hfit
      · repeat (first | with_reducible exact hG4 | (with_reducible refine GotIn.set ?_ ?_ _; rotate_left; (simp only []; omega)))
    · intro y hy
      cases hy
      refine ⟨by simp only []; omega, ?_⟩
      refine GotIn.lt (m := 0) (r := r) ?_
      repeat (first | with_reducible exact hG4 | (with_reducible refine GotIn.set ?_ ?_ _; rotate_left; (simp only []; omega)))
  · obtain ⟨Z, hZ, hZs, hmk⟩ := make_run (P := Tryd.prog) (t := 22) Tryd.underlying22 hi hzz.1 m (by rw [hzz.2.2]; omega) (by unfold maxLen; omega)
    have hZm : Z.size = m := by rw [hZs, hzz.2.1]; omega
    have HZ := Lib.hid hZm
    clear hZ hZs hzz hi hZm
    go_enter Tryd.func30, Tryd.ntmps30
    go_wp2_with fail
    refine (HM.out _ _ Z (below4 _ _ _ _ _) (by omega) HZ.out (fourth_new _ _ _ _ _)).mono ?_
    rw [HRL.out]
    rintro e w4 ⟨v, rfl, hG4, hB⟩
    have k1 := (hB.w.block _ (by simp <;> omega) (by rintro (e | e) <;> first | (have := hF _ e; omega) | omega)).trans (second_new4 _ _ _ _ _)
    have k2 := (hB.w.block _ (by simp <;> omega) (by rintro (e | e) <;> first | (have := hF _ e; omega) | omega)).trans (third_new4 _ _ _ _ _)
    have hB4 : Beh S ad P Fp k w v w4 := ⟨hB.e, hB.p, hB.s, ((Wrote.of_below (S := fun j => Fp j ∨ j = w.heap.size + 1 + 1 + 1) (below4 w _ _ _ _)).trans hB.w).mono (fun j hj e => by
      rcases e with e | e
      · exact e
      · omega)⟩
    clear hB
    obtain ⟨⟨p0, p1, p2, p3, p4, p5⟩, q0, q1, q2, q3, q4, q5⟩ := cells6 k1; obtain ⟨⟨r0, r1, r2, r3, r4, r5⟩, t0, t1, t2, t3, t4, t5⟩ := cells6 k2; have T1 := Typed.of k1; have T2 := Typed.of k2; clear k1 k2
    go_wp2_with (go_at_call 46; refine (Beh.kind (S := S) (ad := ad) (P := P) (Fp := Fp) (k := k) (w := w) (by repeat (first | with_reducible exact hB4 | (with_reducible refine Beh.set ?_ hSt hSw ?_ ?_ _; rotate_left; (repeat (first | with_reducible exact T1 | with_reducible exact T2 | with_reducible refine Typed.set ?_ _ _)); (simp only []; omega))))).mono ?_; rintro e w5 ⟨rfl, rfl⟩)
    refine bodyPost_ret (v := ansVal k 0 0 (.slice (some ⟨w.heap.size + 1 + 1 + 1, 0, none⟩) n m)) (by simp [results, Tryd.results30, go_sem, ansVal, p0, p1, p2, p3, p4, p5]) rfl ?_
    refine ⟨_, _, rfl, ?_, ?_, Beh.two (S := S) (ad := ad) (k := k) (v := v) ?_⟩
    rotate_right
    · repeat (first | with_reducible exact hB4 | (with_reducible refine Beh.set ?_ hSt hSw ?_ ?_ _; rotate_left; (repeat (first | with_reducible exact T1 | with_reducible exact T2 | with_reducible refine Typed.set ?_ _ _)); (simp only []; omega)))
    · refine GotIn.bytes ?_ HRL.out hnm (by omega) hfit
      · repeat (first | with_reducible exact hG4 | (with_reducible refine GotIn.set ?_ ?_ _; rotate_left; (simp only []; omega)))
    · intro y hy
      cases hy
      refine ⟨by simp only []; omega, ?_⟩
      refine GotIn.lt (m := m) (r := r) ?_
      repeat (first | with_reducible exact hG4 | (with_reducible refine GotIn.set ?_ ?_ _; rotate_left; (simp only []; omega)))
end
end Go.Proofs.YtnkhfdnahnphdaaDoor
end
