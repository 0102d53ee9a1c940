/- impl.ContainsIn: what it answers. -/
import Derived.Test.YtfanlhkpblemgaaDoorCnWalk
namespace Go.Proofs.YtfanlhkpblemgaaDoor
open Go.ChangeShapes Go.WideShapes Go.ChangeAt Go.RowKit Go.Rd
open Go.Proofs.YtfanlhkpblemgaaDoorW.PrintWords Go.Proofs.YtfanlhkpblemgaaDoorW.PrintLast Go.Proofs.YtfanlhkpblemgaaDoorW.PrintMore
set_option linter.unusedVariables false

/-- A cell that holds a row of bytes in a block of bytes. -/
def BytT (w : World) (zs : List Int) (cs : List Value) : Prop := ∃ A c, cs = [.slice A zs.length c] ∧ BytesIn w A zs.length c zs ∧ ∀ a, A = some a → Typed w a.block 5
theorem BytT.wrote {w w' : World} {S : Nat → Prop} {zs : List Int} {cs : List Value} (h : BytT w zs cs) (hw : Wrote S w w') (hs : ∀ k, S k → ¬ Typed w k 5) : BytT w' zs cs := by
  obtain ⟨A, c, e, hb, ht⟩ := h
  have hkeep : ∀ a, A = some a → w'.heap[a.block]? = w.heap[a.block]? := fun a ha => by
    have htt := ht a ha
    obtain ⟨cc, fr, hh⟩ := id htt
    exact hw.block _ (lt_of_heap hh) (fun hS => hs _ hS htt)
  refine ⟨A, c, e, ⟨hb.len, hb.nil, hb.le, hb.max, fun x ex j u hu => ?_, hb.fits⟩, fun a ha => ?_⟩
  · have hc := hb.cells x ex j u hu
    have hk := hkeep x ex
    rw [← hc]
    unfold World.cell?
    rw [Go.Rd.add_block, hk]
  · obtain ⟨cc, fr, hh⟩ := ht a ha
    exact ⟨cc, fr, (hkeep a ha).trans hh⟩
theorem BytT.below {w w' : World} {zs : List Int} {cs : List Value} (h : BytT w zs cs) (hb : Below w.heap.size w w') : BytT w' zs cs := h.wrote (S := fun _ => False) (Wrote.of_below hb) (fun _ e => e.elim)
theorem BytT.toK {w : World} {zs : List Int} {cs : List Value} (h : BytT w zs cs) : BytK w zs cs := by
  obtain ⟨A, c, e, hb, _⟩ := h
  exact ⟨A, c, e, hb⟩
theorem BytT.of_own {w : World} {B c : Nat} {A : Option Addr} {zs : List Int} (h : w.ownsRow B 5 1 (.slice A zs.length c) zs.length (zs.map (Value.int .u8))) (hf : ∀ c ∈ zs, 0 ≤ c ∧ c ≤ 255) : BytT w zs [.slice A zs.length c] := by
  obtain ⟨A0, k0, e0, hb⟩ := BytesIn.own h hf
  injection e0 with e01 e02 e03
  subst e01 e03
  refine ⟨A, c, rfl, hb, fun a ha => ?_⟩
  subst ha
  obtain ⟨cells, hc⟩ := own_typed h a.block rfl
  exact Typed.of hc
theorem info22 : (Tryd.prog.info? 22).map (fun i => (i.zero, i.size, i.bytes)) = some (some (.slice none 0 0), 1, 24) := by kernel_rfl
theorem row_t {w : World} {B : Nat} {v : Value} {l : List (List Int)} {R : List Int → List Value → Prop} (hL : OwnRow R 22 1 w B v l) : ∀ k, v.ownBlock = some k → ¬ Typed w k 5 := by
  obtain ⟨inner, h1, _⟩ := hL
  intro k e ⟨c2, fr2, h2⟩
  obtain ⟨cells, hc⟩ := own_typed h1 k e
  rw [hc] at h2
  injection h2 with h2
  injection h2 with _ h2
  cases h2

theorem door_with (A : Option Addr) (m c : Nat) (b : List Int) (w : World) (B : Nat) (ho : w.ownsRow B tU8 1 (.slice A m c) m (b.map (Value.int .u8))) (hf : ∀ x ∈ b, 0 ≤ x ∧ x ≤ 255) :
    Calls Tryd.prog 26 #[.string ⟨#[47, 102]⟩, .slice A m c] w fun e w' => ∃ fd, e = .returned (.pointer (some ⟨fd, 0, none⟩)) ∧ (∃ d : FD, d.bs = b ∧ DataIs w' B fd (.slice A m c) d) ∧ w.heap.size ≤ fd ∧ Below w.heap.size w w' := by
  have hm : b.length = m := by have := ho.1; simpa using this
  subst hm
  go_enter Tryd.func26, Tryd.ntmps26
  go_wp2
  go_ret
  exact ⟨_, rfl, ⟨⟨⟨#[47, 102]⟩, b, _, false, 268435456, 0, 0, 0⟩, rfl, alloc_new _ _, ho.alloc _, hf⟩, Nat.le_refl _, (Below.refl _ _).alloc (Nat.le_refl _) _⟩
theorem new_reader (fd : Nat) (w : World) : Calls Tryd.prog 25 #[.pointer (some ⟨fd, 0, none⟩)] w fun e w' => ∃ f, e = .returned (.pointer (some ⟨f, 0, none⟩)) ∧ HandleIs w' f ⟨0, 0, false, true, fd⟩ ∧ w.heap.size ≤ f ∧ Below w.heap.size w w' := by
  go_enter Tryd.func25, Tryd.ntmps25
  go_wp2
  go_ret
  exact ⟨_, rfl, alloc_new _ _, Nat.le_refl _, (Below.refl _ _).alloc (Nat.le_refl _) _⟩
/-- The answer of ContainsIn. -/
def InPost (D : List Int) (L : List (List Int)) (w : World) (e : Ending) (w' : World) : Prop := ∃ r, e = .returned (.bool r) ∧ Says D L r ∧ Below w.heap.size w w'
set_option maxHeartbeats 1000000 in
theorem door_contains (f fd B : Nat) (rdc : Int) (ro : Bool) (dv : Value) (d : FD) (A : Option Addr) (c : Nat) (L : List (List Int)) (w : World) (p8 p9 : Addr) (s8 : w.cell? ⟨8, 0, none⟩ = some (.iface 119 (.pointer (some p8)))) (s9 : w.cell? ⟨9, 0, none⟩ = some (.iface 119 (.pointer (some p9))))
    (hlow : 9 < w.heap.size ∧ 9 < f) (hH : HandleIs w f ⟨0, rdc, false, ro, fd⟩) (hD : DataIs w B fd dv d) (hR : ReadsRow (BytK w) 1 w A L.length L) (hL : L.length ≤ 10) (hLs : ∀ s ∈ L, s.length ≤ 20000) (hl : d.bs.length ≤ 20000) :
    Calls Tryd.prog 24 #[.pointer (some ⟨f, 0, none⟩), .slice A L.length c] w (ReaderPost d.bs L f w) := by
  have h := reader_any f fd B rdc ro dv d A c L w p8 p9 s8 s9 hlow hH hD hR hL hLs hl
  have H := Lib.hid h
  clear h hLs hR hH hD s8 s9
  go_enter Tryd.func24, Tryd.ntmps24
  go_wp2_with fail
  refine H.out.mono ?_
  rintro e w1 ⟨r, rfl, h1, h2⟩
  go_wp2
  go_ret
  exact ⟨r, rfl, h1, h2⟩
/-- The state of the loop that copies. -/
def InRel (w : World) (L : List (List Int)) (v i : Value) (wr : World) : Prop := ∃ k : Nat, k ≤ L.length ∧ i = .int .i64 k ∧ OwnRow (BytT wr) 22 1 wr w.heap.size v (L.take k) ∧ Below w.heap.size w wr
set_option maxRecDepth 100000 in
set_option maxHeartbeats 4000000 in
theorem in_any (dA : Option Addr) (dc : Nat) (D : List Int) (A : Option Addr) (c : Nat) (L : List (List Int)) (w : World) (p8 p9 : Addr) (s8 : w.cell? ⟨8, 0, none⟩ = some (.iface 119 (.pointer (some p8)))) (s9 : w.cell? ⟨9, 0, none⟩ = some (.iface 119 (.pointer (some p9))))
    (hlow : 9 < w.heap.size) (hd : BytesIn w dA D.length dc D) (hR : ReadsRow (BytK w) 1 w A L.length L) (hL : L.length ≤ 10) (hLs : ∀ s ∈ L, s.length ≤ 20000) (hl : D.length ≤ 20000) :
    Calls Tryd.prog 9 #[.slice dA D.length dc, .slice A L.length c] w (InPost D L w) := by
  have HR := Lib.hid hR
  have HS := Lib.hid hLs
  have HD := Lib.hid hd
  have HS8 := Lib.hid s8
  have HS9 := Lib.hid s9
  clear hR hLs hd s8 s9
  go_enter Tryd.func9, Tryd.ntmps9
  go_wp2_with fail
  go_loopw [5, 7, 10] (fun v _ i wr => InRel w L v i wr) (fun _ _ i _ => L.length - (intOf i).toNat)
  case atStart => exact ⟨0, Nat.zero_le _, rfl, OwnRow.none_ _ _ _ _ _, Below.refl _ _⟩
  case round =>
    obtain ⟨k, hk, rfl, hO, hB⟩ := hrel
    by_cases hlt : k < L.length
    · obtain ⟨b, off, A2, c2, rfl, hbl, x0, hby⟩ := row_at HR.out k hlt
      have y0 := (hB.cell (p := ⟨b, off + k, none⟩) hbl).trans x0
      have hby2 := hby.below hB
      have hsl := HS.out L[k] (List.getElem_mem _)
      obtain ⟨s, hs⟩ : ∃ s, s = L[k] := ⟨_, rfl⟩
      rw [← hs] at y0 hby2 hsl
      have HEQ := Lib.hid hs
      clear x0 hby hs
      have hlk : (L.take k).length = k := by simp; omega
      have HLK := Lib.hid hlk
      clear hlk
      go_wp2_with (first
        | (at_builtin; refine append_src rfl (.const (.slice none 0 0)) (.tmp 15) 22 rfl wr.heap.size 5 _ (.int .u8 0) 1 1 Tryd.underlying22 rfl rfl rfl rfl rfl (by decide) (.slice none 0 0) 0 [] rfl (World.ownsRow_nil _ _ _ _) A2 s.length c2 (s.map (Value.int .u8)) rfl (hby2.src).1 hby2.nil hby2.cells (hby2.src).2.2.2 (by unfold maxLen; omega) (by omega) (Nat.le_refl _) ?_; intro v1 w1 ho1 hg1; rw [Nat.zero_add, List.nil_append] at ho1; obtain ⟨A1, c1, e1⟩ := own_slice ho1; subst e1; have hB1 : Below wr.heap.size wr w1 := ⟨hg1.os, hg1.tape, hg1.output, hg1.size, fun k hk => hg1.block k hk (by simp [Value.ownBlock])⟩; have hT1 := BytT.of_own ho1 hby2.fits; have hO1 := (hO.imp_ (fun p c hp => BytT.below hp hB1)).below hB1; have hBw1 := hB.trans (hB1.mono hB.size))
        | (at_builtin; refine OwnRow.append (w0 := w) (R := BytT w1) w.heap.size rfl (.tmp 14) (.tmp 17) 23 22 (.slice none 0 0) 1 24 rfl Tryd.underlying23 info22 rfl (by decide) (by decide) _ (L.take k) s [.slice A1 s.length c1] rfl (by simp [Act.eval]) hT1 rfl (by simp [Value.oneCell']) hO1 hBw1 hBw1.size (by rw [HLK.out]; omega) ?_; intro v5 w5 hO5 hB5 hg5 hat5))
      go_roundw
      case rel =>
        refine ⟨k + 1, by omega, by go_num, ?_, hB5⟩
        rw [List.take_succ_eq_append_getElem hlt, ← HEQ.out]
        exact hO5.imp_ (fun p c hp => hp.wrote (wrote_grown hg5) (row_t hO1))
      case measure => simp [intOf]; omega
    · obtain rfl : k = L.length := by omega
      rw [List.take_length] at hO
      obtain ⟨AL, cL, rfl, _, hRR⟩ := hO.reads
      have HRR := Lib.hid hRR
      have hdB := HD.out.below hB
      clear hRR hO
      go_wp2_with (first
        | (at_builtin; refine append_src rfl (.const (.slice none 0 0)) (.tmp 20) 22 rfl wr.heap.size 5 _ (.int .u8 0) 1 1 Tryd.underlying22 rfl rfl rfl rfl rfl (by decide) (.slice none 0 0) 0 [] rfl (World.ownsRow_nil _ _ _ _) dA D.length dc (D.map (Value.int .u8)) rfl (hdB.src).1 hdB.nil hdB.cells (hdB.src).2.2.2 (by unfold maxLen; omega) (by omega) (Nat.le_refl _) ?_; intro v1 w1 ho1 hg1; rw [Nat.zero_add, List.nil_append] at ho1; obtain ⟨A1, c1, e1⟩ := own_slice ho1; subst e1; have hB1 : Below wr.heap.size wr w1 := ⟨hg1.os, hg1.tape, hg1.output, hg1.size, fun k hk => hg1.block k hk (by simp [Value.ownBlock])⟩)
        | (go_at_call 26; refine (door_with A1 D.length c1 D w1 wr.heap.size ho1 hdB.fits).mono ?_; rintro e w2 ⟨fd, rfl, ⟨d, hdb, hD2⟩, hfd2, hB2⟩; have HDB := Lib.hid hdb; clear hdb; have hB2' := hB1.trans (hB2.mono hB1.size))
        | (go_at_call 25; refine (new_reader fd w2).mono ?_; rintro e w3 ⟨f, rfl, hH3, hf3, hB3⟩; have hD3 := hD2.below hB3; have hB3' := hB2'.trans (hB3.mono hB2'.size); have hf := Nat.le_trans hB2'.size hf3; have hBw3 := hB.trans (hB3'.mono hB.size))
        | (go_at_call 24; refine (door_contains f fd wr.heap.size 0 true _ d AL cL L w3 p8 p9 ((hBw3.cell (p := ⟨8, 0, none⟩) (by show 8 < _; omega)).trans HS8.out) ((hBw3.cell (p := ⟨9, 0, none⟩) (by show 9 < _; omega)).trans HS9.out) (by have := hBw3.size; have := hB.size; omega) hH3 hD3 (HRR.out.imp_ hB3' (fun p c hp => (hp.below hB3').toK)) hL HS.out (by rw [HDB.out]; exact hl)).mono ?_; rintro e w4 ⟨r, rfl, hsay, hW4⟩; rw [HDB.out] at hsay; have HSAY := Lib.hid hsay; clear hsay))
      go_ret
      exact ⟨r, rfl, HSAY.out, hBw3.trans (hW4.below hBw3.size (fun k hk e => by have := hB.size; omega))⟩
end Go.Proofs.YtfanlhkpblemgaaDoor
