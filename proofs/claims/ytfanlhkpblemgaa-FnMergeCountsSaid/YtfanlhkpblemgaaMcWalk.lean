/- FnMergeCounts: entries as infos. -/
import Derived.Test.YtfanlhkpblemgaaPFnMergeCountsx3
import Derived.Test.YtfanlhkpblemgaaOp
import Derived.Test.YtfanlhkpblemgaaAp
import Derived.Test.YtfanlhkpblemgaaFi
import Derived.Test.YtfanlhkpblemgaaPm
import Derived.Test.YtfanlhkpblemgaaMn
import Derived.Deep.RegionHeld3
namespace Go.Proofs.Ytfanlhkpblemgaa
open Go.ChangeShapes Go.WideShapes Go.ChangeAt Go.RowKit Go.Rd
open Go.Proofs.YtfanlhkpblemgaaW.PrintWords Go.Proofs.YtfanlhkpblemgaaW.PrintLast Go.Proofs.YtfanlhkpblemgaaW.PrintMore
open PFnMergeCounts Fi
set_option linter.unusedVariables false

/-- A block's type. -/
def Typed (w : World) (b : Nat) (t : TypeId) : Prop := ∃ c fr, w.heap[b]? = some (.cells c t fr)
theorem Typed.of {w : World} {b : Nat} {t : TypeId} {c : Array Value} {fr : Nat × Nat} (h : w.heap[b]? = some (.cells c t fr)) : Typed w b t := ⟨c, fr, h⟩
theorem typed_one {w : World} {k : Nat} {c : Array Value} {t t' : TypeId} {fr : Nat × Nat} (h : w.heap[k]? = some (.cells c t fr)) (ht : Typed w k t') : t = t' := by
  obtain ⟨c2, fr2, h2⟩ := ht
  rw [h] at h2
  injection h2 with h2
  injection h2
theorem wrote_grown {w w' : World} {row : Option Nat} (hg : w.grownBy w' row) : Wrote (fun k => row = some k) w w' := ⟨hg.os, hg.tape, hg.output, hg.size, fun k hk hs => hg.block k hk (fun e => hs e.symm)⟩
theorem row_ty {α : Type} {R : α → List Value → Prop} {w : World} {e size B : Nat} {v : Value} {l : List α} (hL : OwnRow R e size w B v l) {t : TypeId} (ht : e ≠ t) : ∀ k, v.ownBlock = some k → ¬ Typed w k t := by
  obtain ⟨inner, h1, _⟩ := hL
  intro k ek hk
  obtain ⟨cells, hc⟩ := own_typed h1 k ek
  exact ht (typed_one hc hk)
theorem Below.drew_left {B : Nat} {w w' : World} (h : Below B w.drew w') : Below B w w' := ⟨h.os, h.tape, h.output, h.size, h.block⟩
/-- An entry that is read. -/
def EntK (w : World) (x : S35) (cs : List Value) : Prop := ∃ A c, cs = [.string x.f0, .int .i64 x.f1, .bool x.f2, .slice A x.f3.length c, .int .i64 x.f4] ∧ BytesIn w A x.f3.length c x.f3
theorem EntK.below {w w' : World} {x : S35} {cs : List Value} (h : EntK w x cs) (hb : Below w.heap.size w w') : EntK w' x cs := by
  obtain ⟨A, c, e, hy⟩ := h
  exact ⟨A, c, e, hy.below hb⟩
theorem spot_none {w : World} {a : Addr} {v : Value} (h : w.cell? a = some v) : a.spot = none := by
  unfold World.cell? at h
  split at h
  · cases hs : a.spot with
    | none => rfl
    | some s => rw [hs] at h; simp at h
  · cases h
theorem ent_at {w0 w : World} {A : Option Addr} {n : Nat} {l : List S35} (h : ReadsRow (EntK w0) 5 w A n l) (k : Nat) (hk : k < l.length) :
    ∃ b off A3 c3, A = some ⟨b, off, none⟩ ∧ b < w.heap.size ∧ w.cell? ⟨b, off + k * 5, none⟩ = some (.string l[k].f0) ∧ w.cell? ⟨b, off + k * 5 + 1, none⟩ = some (.int .i64 l[k].f1) ∧ w.cell? ⟨b, off + k * 5 + 2, none⟩ = some (.bool l[k].f2) ∧
      w.cell? ⟨b, off + k * 5 + 3, none⟩ = some (.slice A3 l[k].f3.length c3) ∧ w.cell? ⟨b, off + k * 5 + 4, none⟩ = some (.int .i64 l[k].f4) ∧ BytesIn w0 A3 l[k].f3.length c3 l[k].f3 := by
  obtain ⟨ad, rfl, hc⟩ := h.2.2 (by have := h.1; omega)
  obtain ⟨c, hcl, ⟨A3, c3, rfl, hb⟩, hcell⟩ := hc k l[k] (by simp [hk])
  have hx0 := hcell 0 _ rfl
  have hx1 := hcell 1 _ rfl
  have hx2 := hcell 2 _ rfl
  have hx3 := hcell 3 _ rfl
  have hx4 := hcell 4 _ rfl
  obtain ⟨b, off, sp⟩ := ad
  have hs : sp = none := by
    cases sp with
    | none => rfl
    | some s =>
      obtain ⟨c0, hc0, ⟨A0, k0, rfl, _⟩, hcell0⟩ := hc 0 l[0] (by simp [Nat.lt_of_le_of_lt (Nat.zero_le k) hk])
      have hy := hcell0 0 _ rfl
      exact absurd (spot_none hy) (by simp [Addr.add])
  subst hs
  rw [addr_add] at hx0 hx1 hx2 hx3 hx4
  exact ⟨b, off, A3, c3, rfl, cell_lt hx0, hx0, by rw [Nat.add_assoc]; exact hx1, by rw [Nat.add_assoc]; exact hx2, by rw [Nat.add_assoc]; exact hx3, by rw [Nat.add_assoc]; exact hx4, hb⟩
/-- What an info of an entry says. -/
def m32 (x : S35) : Int := IntKind.u32.wrap x.f1
def fdOf (x : S35) (A : Option Addr) (c : Nat) : Fi.Fd := ⟨x.f0, A, x.f3.length, c, .map none, x.f2, m32 x, x.f4, 0, 0⟩
def InfK (w : World) (x : S35) (cs : List Value) : Prop := ∃ p fd A c, cs = [.pointer (some ⟨p, 0, none⟩)] ∧ InfoIs w p fd (fdOf x A c)
theorem InfK.wrote {w w' : World} {S : Nat → Prop} {x : S35} {cs : List Value} (h : InfK w x cs) (hw : Wrote S w w') (h1 : ∀ k, S k → ¬ Typed w k tI) (h2 : ∀ k, S k → ¬ Typed w k tD) : InfK w' x cs := by
  obtain ⟨p, fd, A, c, e, hi⟩ := h
  exact ⟨p, fd, A, c, e, hi.wrote hw (fun hs => h1 p hs (Typed.of hi.1)) (fun hs => h2 fd hs (Typed.of hi.2))⟩
theorem InfK.below {w w' : World} {x : S35} {cs : List Value} (h : InfK w x cs) (hb : Below w.heap.size w w') : InfK w' x cs := h.wrote (S := fun _ => False) (Wrote.of_below hb) (fun _ e => e.elim) (fun _ e => e.elim)

def DoorPost (w : World) (d : Fi.Fd) (e : Ending) (w' : World) : Prop := ∃ p fd, e = .returned (.pointer (some ⟨p, 0, none⟩)) ∧ InfoIs w' p fd d ∧ w.heap.size ≤ p ∧ Below w.heap.size w w'
theorem doorInfo_any (nm : ByteArray) (mode : Int) (dir : Bool) (A : Option Addr) (n c : Nat) (mt : Int) (w : World) :
    Calls Try.prog 20 #[.string nm, .int .u32 mode, .bool dir, .slice A n c, .int .i64 mt] w (DoorPost w ⟨nm, A, n, c, .map none, dir, mode, mt, 0, 0⟩) := by
  go_enter Try.func20, Try.ntmps20
  go_wp2
  go_ret
  refine ⟨_, _, rfl, ⟨by have := alloc_new (w.alloc (.cells #[.string nm, .slice A n c, .map none, .bool dir, .int .u32 mode, .int .i64 mt, .int .i64 0, .int .i64 0] 59)) (.cells #[.pointer (some ⟨w.heap.size, 0, none⟩)] 61); simpa using this, ?_⟩, ?_, ?_⟩
  · have := alloc_keeps (alloc_new w (.cells #[.string nm, .slice A n c, .map none, .bool dir, .int .u32 mode, .int .i64 mt, .int .i64 0, .int .i64 0] 59)) (.cells #[.pointer (some ⟨w.heap.size, 0, none⟩)] 61)
    exact this
  · simp
  · exact ((Below.refl _ _).alloc (Nat.le_refl _) _).alloc (by simp) _
theorem infoU8 : (Try.prog.info? 5).map (fun i => (i.zero, i.size, i.bytes)) = some (some (.int .u8 0), 1, 1) := by kernel_rfl
theorem info46 : (Try.prog.info? 46).map (fun i => (i.zero, i.size, i.bytes)) = some (some (.pointer none), 1, 8) := by kernel_rfl
/-- The state of the loop of infos. -/
def InfosRel (w : World) (l : List S35) (v i : Value) (wr : World) : Prop := ∃ k : Nat, k ≤ l.length ∧ i = .int .i64 k ∧ OwnRow (InfK wr) 46 1 wr w.heap.size v (l.take k) ∧ Below w.heap.size w wr
def InfosPost (w : World) (l : List S35) (e : Ending) (w' : World) : Prop := ∃ v, e = .returned v ∧ OwnRow (InfK w') 46 1 w' w.heap.size v l ∧ Below w.heap.size w w'
set_option maxRecDepth 100000 in
set_option maxHeartbeats 4000000 in
theorem infos_any (A : Option Addr) (c : Nat) (l : List S35) (w : World) (hR : ReadsRow (EntK w) 5 w A l.length l) (hl : l.length ≤ 1000) (hd : ∀ x ∈ l, x.f3.length ≤ 4294967296) :
    Calls Try.prog 14 #[.slice A l.length c] w (InfosPost w l) := by
  have HR := Lib.hid hR
  have HS := Lib.hid hd
  clear hR hd
  go_enter Try.func14, Try.ntmps14
  go_wp2_with fail
  go_loopw [3, 5, 8] (fun v _ i wr => InfosRel w l v i wr) (fun _ _ i _ => l.length - (intOf i).toNat)
  case atStart => exact ⟨0, Nat.zero_le _, rfl, OwnRow.none_ _ _ _ _ _, Below.refl _ _⟩
  case round =>
    obtain ⟨k, hk, rfl, hO, hB⟩ := hrel
    by_cases hlt : k < l.length
    · obtain ⟨b, off, A3, c3, rfl, hbl, x0, x1, x2, x3, x4, hby⟩ := ent_at HR.out k hlt
      have y0 := (hB.cell (p := ⟨b, off + k * 5, none⟩) hbl).trans x0
      have y1 := (hB.cell (p := ⟨b, off + k * 5 + 1, none⟩) hbl).trans x1
      have y2 := (hB.cell (p := ⟨b, off + k * 5 + 2, none⟩) hbl).trans x2
      have y3 := (hB.cell (p := ⟨b, off + k * 5 + 3, none⟩) hbl).trans x3
      have y4 := (hB.cell (p := ⟨b, off + k * 5 + 4, none⟩) hbl).trans x4
      have hsl := HS.out l[k] (List.getElem_mem _)
      obtain ⟨x, hx⟩ : ∃ x, x = l[k] := ⟨_, rfl⟩
      rw [← hx] at y0 y1 y2 y3 y4 hby hsl
      have HX := Lib.hid hx
      clear x0 x1 x2 x3 x4 hx
      go_upto_region 5 with fail
      have hb0 := (Below.refl wr.heap.size wr).alloc (Nat.le_refl _) (.cells #[.string x.f0, .int .i64 x.f1, .bool x.f2, .slice A3 x.f3.length c3, .int .i64 x.f4] 35)
      have hn0 := alloc_new wr (.cells #[.string x.f0, .int .i64 x.f1, .bool x.f2, .slice A3 x.f3.length c3, .int .i64 x.f4] 35)
      have hO0 := (hO.imp_ (fun p c hp => InfK.below hp hb0)).below hb0
      have hBw0 := hB.trans (hb0.mono hB.size)
      have hby0 := (hby.below hB).below hb0
      generalize wr.alloc (.cells #[.string x.f0, .int .i64 x.f1, .bool x.f2, .slice A3 x.f3.length c3, .int .i64 x.f4] 35) = W0 at *
      have hwz := lt_of_heap hn0
      have s0 := (cell_of hn0 0).trans rfl
      have s1 := (cell_of hn0 1).trans rfl
      have s2 := (cell_of hn0 2).trans rfl
      have s3 := (cell_of hn0 3).trans rfl
      have s4 := (cell_of hn0 4).trans rfl
      have hRd := run_dup (P := Try.prog) (w := W0.drew) 33 33 5 Try.underlying33 infoU8 A3 x.f3.length c3 x.f3 (hby0.below (Below.refl _ _).drew) (by omega)
      have HRD := Lib.hid hRd
      have hlk : (l.take k).length = k := by simp; omega
      have HLK := Lib.hid hlk
      have HN0 := Lib.hid hn0
      clear hRd y0 y1 y2 y3 y4 hby hby0 hlk hn0
      go_region_held3 (fun w' => w'.cell? ⟨wr.heap.size, 0, none⟩ = some (.string x.f0) ∧ w'.cell? ⟨wr.heap.size, 1, none⟩ = some (.int .i64 x.f1) ∧ w'.cell? ⟨wr.heap.size, 2, none⟩ = some (.bool x.f2) ∧ w'.cell? ⟨wr.heap.size, 3, none⟩ = some (.slice A3 x.f3.length c3) ∧ w'.cell? ⟨wr.heap.size, 4, none⟩ = some (.int .i64 x.f4)) (first | go_keep | (go_split_ands; refine ⟨?_, ?_, ?_, ?_, ?_⟩ <;> assumption)) (first
        | (refine step_append_run rfl (.const (.slice none 0 0)) (.tmp 21) 33 rfl (.slice none 0 0) (.slice A3 x.f3.length c3) (by simp [Act.eval]) (by simp [Act.eval]) _ HRD.out ?_; rintro v1 w1 ⟨A2, c2, ev1, hb2, hbl2, _, hbe2⟩; subst ev1; have k1 := (hbe2.block wr.heap.size (by show wr.heap.size < W0.heap.size; omega)).trans HN0.out; have z0 := (cell_of k1 0).trans rfl; have z1 := (cell_of k1 1).trans rfl; have z2 := (cell_of k1 2).trans rfl; have z3 := (cell_of k1 3).trans rfl; have z4 := (cell_of k1 4).trans rfl)
        | (go_at_call 20; refine (doorInfo_any x.f0 _ x.f2 A2 x.f3.length c2 x.f4 _).mono ?_; rintro e w4 ⟨p, fd, rfl, hI4, hp4, hB4⟩; have k2 := (hB4.block wr.heap.size (lt_of_heap k1)).trans k1; have u0 := (cell_of k2 0).trans rfl; have u1 := (cell_of k2 1).trans rfl; have u2 := (cell_of k2 2).trans rfl; have u3 := (cell_of k2 3).trans rfl; have u4 := (cell_of k2 4).trans rfl; have hb24 := (Below.drew_left hbe2).trans (hB4.mono (Below.drew_left hbe2).size); have hO4 := (hO0.imp_ (fun p c hp => InfK.below hp hb24)).below hb24; have hBw4 := hBw0.trans (hb24.mono hBw0.size))
        | (refine OwnRow.append_step (w0 := w) (R := InfK w4) w.heap.size (by simp [Region.wanted]) (.tmp 12) (.tmp 26) 38 46 (.pointer none) 1 8 rfl Try.underlying38 info46 rfl (by decide) (by decide) _ (l.take k) x [.pointer (some ⟨p, 0, none⟩)] (by simp [Act.eval]) (by simp [Act.eval]) ⟨p, fd, A2, c2, rfl, hI4⟩ rfl (by simp [Value.oneCell']) hO4 hBw4 hBw4.size (by rw [HLK.out]; omega) ?_; intro v5 w5 hO5 hB5 hg5 hat5; have k3 := ((wrote_grown hg5).block wr.heap.size (lt_of_heap k2) (fun e => row_ty hO4 (show (46 : TypeId) ≠ 35 by decide) _ e (Typed.of k2))).trans k2; have t0 := (cell_of k3 0).trans rfl; have t1 := (cell_of k3 1).trans rfl; have t2 := (cell_of k3 2).trans rfl; have t3 := (cell_of k3 3).trans rfl; have t4 := (cell_of k3 4).trans rfl))
      all_goals
        clear z0 z1 z2 z3 z4 u0 u1 u2 u3 u4 t0 t1 t2 t3 t4 s0 s1 s2 s3 s4
        go_wp2_with fail
        go_roundw
        case rel =>
          refine ⟨k + 1, by omega, by go_num, ?_, hB5⟩
          rw [List.take_succ_eq_append_getElem hlt, ← HX.out]
          exact hO5.imp_ (fun p c hp => hp.wrote (wrote_grown hg5) (row_ty hO4 (by decide)) (row_ty hO4 (by decide)))
        case measure => simp [intOf]; omega
    · obtain rfl : k = l.length := by omega
      rw [List.take_length] at hO
      go_wp2_with fail
      go_ret
      exact ⟨_, rfl, hO, hB⟩
end Go.Proofs.Ytfanlhkpblemgaa
