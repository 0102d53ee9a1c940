/- FnMergeCounts: what is told of infos; which entry a name's info is of. -/
import Derived.Test.YtfanlhkpblemgaaMcWalk
namespace Go.Proofs.Ytfanlhkpblemgaa
open Go.ChangeShapes Go.WideShapes Go.ChangeAt Go.RowKit Go.Rd
open Go.Proofs.YtfanlhkpblemgaaW.PrintWords Go.Proofs.YtfanlhkpblemgaaW.PrintLast Go.Proofs.YtfanlhkpblemgaaW.PrintMore
open PFnMergeCounts Fi
set_option linter.unusedVariables false

/-- The last name of an entry, the size that is told. -/
def key (x : S35) : List UInt8 := (Sp.base x.f0).data.toList
def szOf (x : S35) : Int := if x.f2 = true then 42 else x.f3.length
theorem fd_size (x : S35) (A : Option Addr) (c : Nat) : (fdOf x A c).size = szOf x := rfl
theorem m32_range (x : S35) : 0 ≤ m32 x ∧ m32 x ≤ 4294967295 := by
  unfold m32
  simp [IntKind.wrap, IntKind.bits, IntKind.signed]
  omega
/-- An entry as it is told. -/
def ToldK (x : S35) (cs : List Value) : Prop := cs = [.string (Sp.base x.f0), .int .i64 (szOf x), .int .i64 (m32 x), .bool x.f2, .int .i64 x.f4]
theorem ptr_row {w0 w : World} {A : Option Addr} {n : Nat} {l : List S35} (h : ReadsRow (InfK w0) 1 w A n l) (k : Nat) (hk : k < l.length) :
    ∃ b off p fd A3 c3, A = some ⟨b, off, none⟩ ∧ b < w.heap.size ∧ w.cell? ⟨b, off + k, none⟩ = some (.pointer (some ⟨p, 0, none⟩)) ∧ InfoIs w0 p fd (fdOf l[k] A3 c3) := by
  obtain ⟨ad, rfl, hc⟩ := h.2.2 (by have := h.1; omega)
  obtain ⟨c, hcl, ⟨p, fd, A3, c3, rfl, hi⟩, hcell⟩ := hc k l[k] (by simp [hk])
  have hx0 := hcell 0 _ rfl
  obtain ⟨b, off, sp⟩ := ad
  have hs : sp = none := by
    cases sp with
    | none => rfl
    | some s =>
      obtain ⟨c0, hc0, ⟨p0, fd0, A0, k0, rfl, _⟩, hcell0⟩ := hc 0 l[0] (by simp [Nat.lt_of_le_of_lt (Nat.zero_le k) hk])
      have hy := hcell0 0 _ rfl
      exact absurd (spot_none hy) (by simp [Addr.add])
  subst hs
  rw [addr_add, show off + (k * 1 + 0) = off + k by omega] at hx0
  exact ⟨b, off, p, fd, A3, c3, rfl, cell_lt hx0, hx0, hi⟩
theorem info29 : (Try.prog.info? 29).map (fun i => (i.zero, i.size, i.bytes)) = some (some (.agg #[.string ⟨#[]⟩, .int .i64 0, .int .i64 0, .bool false, .int .i64 0]), 5, 48) := by kernel_rfl
def TolRel (w : World) (l : List S35) (v i : Value) (wr : World) : Prop := ∃ k : Nat, k ≤ l.length ∧ i = .int .i64 k ∧ OwnRow ToldK 29 5 wr w.heap.size v (l.take k) ∧ Below w.heap.size w wr
def TolPost (w : World) (l : List S35) (e : Ending) (w' : World) : Prop := ∃ v, e = .returned v ∧ OwnRow ToldK 29 5 w' w.heap.size v l ∧ Below w.heap.size w w'
set_option maxRecDepth 100000 in
set_option maxHeartbeats 4000000 in
theorem fromInfos_any (A : Option Addr) (c : Nat) (l : List S35) (w : World) (hR : ReadsRow (InfK w) 1 w A l.length l) (hl : l.length ≤ 1000) (hd : ∀ x ∈ l, x.f0.size ≤ 4294967296) :
    Calls Try.prog 15 #[.slice A l.length c] w (TolPost w l) := by
  have HR := Lib.hid hR
  have HS := Lib.hid hd
  clear hR hd
  go_enter Try.func15, Try.ntmps15
  go_wp2_with fail
  go_loopw [3, 5, 8] (fun v _ i wr => TolRel w l v i wr) (fun _ _ i _ => l.length - (intOf i).toNat)
  case atStart => exact ⟨0, Nat.zero_le _, rfl, OwnRow.none_ _ _ _ _ _, Below.refl _ _⟩
  case round =>
    obtain ⟨k, hk, rfl, hO, hB⟩ := hrel
    by_cases hlt : k < l.length
    · obtain ⟨b, off, p, fd, A3, c3, rfl, hbl, x0, hI⟩ := ptr_row HR.out k hlt
      have y0 := (hB.cell (p := ⟨b, off + k, none⟩) hbl).trans x0
      have hI2 := hI.below hB
      have hsl := HS.out l[k] (List.getElem_mem _)
      obtain ⟨x, hx⟩ : ∃ x, x = l[k] := ⟨_, rfl⟩
      rw [← hx] at hI2 hsl
      have HX := Lib.hid hx
      have hlk : (l.take k).length = k := by simp; omega
      have HLK := Lib.hid hlk
      have hcall := from_any wr p fd (fdOf x A3 c3) hsl (m32_range x) hI2
      have HC := Lib.hid hcall
      clear x0 hI hI2 hx hlk hcall
      go_wp2_with (first
        | (go_at_call 21; refine HC.out.mono ?_; rintro e w1 ⟨rfl, hB1⟩; have hO1 := hO.below hB1; have hBw1 := hB.trans (hB1.mono hB.size))
        | (at_builtin; refine OwnRow.append (w0 := w) (R := ToldK) w.heap.size rfl (.tmp 12) (.tmp 15) 24 29 (.agg #[.string ⟨#[]⟩, .int .i64 0, .int .i64 0, .bool false, .int .i64 0]) 5 48 rfl Try.underlying24 info29 rfl (by decide) (by decide) _ (l.take k) x [.string (Sp.base x.f0), .int .i64 (szOf x), .int .i64 (m32 x), .bool x.f2, .int .i64 x.f4] rfl (by simp [Act.eval]) rfl rfl (by simp [Value.oneCell']) hO1 hBw1 hBw1.size (by rw [HLK.out]; omega) ?_; intro v5 w5 hO5 hB5 hg5 hat5))
      go_roundw
      case rel =>
        refine ⟨k + 1, by omega, by go_num, ?_, hB5⟩
        rw [List.take_succ_eq_append_getElem hlt, ← HX.out]
        exact hO5
      case measure => simp [intOf]; omega
    · obtain rfl : k = l.length := by omega
      rw [List.take_length] at hO
      go_wp2_with fail
      go_ret
      exact ⟨_, rfl, hO, hB⟩

/-- The entry of a name: the last one of the first list with it, else the first one of the second list. -/
def pick (E1 E2 : List S35) (s : List UInt8) : Option S35 := (E1.reverse.find? (fun x => key x == s)).or (E2.find? (fun x => key x == s))
theorem pick_first (E1 E2 : List S35) (x : S35) (s : List UInt8) : pick (E1 ++ [x]) E2 s = if key x = s then some x else pick E1 E2 s := by
  unfold pick
  rw [List.reverse_append]
  by_cases h : key x = s
  · simp [h]
  · have hb : (key x == s) = false := by simpa using h
    simp [h, hb]
theorem pick_second (E1 E2 : List S35) (x : S35) (s : List UInt8) : pick E1 (E2 ++ [x]) s = (pick E1 E2 s).or (if key x = s then some x else none) := by
  unfold pick
  rw [List.find?_append, ← Option.or_assoc]
  congr 1
  by_cases h : key x = s
  · simp [h]
  · have hb : (key x == s) = false := by simpa using h
    simp [h, hb]
theorem pick_key {E1 E2 : List S35} {s : List UInt8} {x : S35} (h : pick E1 E2 s = some x) : key x = s ∧ (x ∈ E1 ∨ x ∈ E2) := by
  unfold pick at h
  cases h1 : E1.reverse.find? (fun x => key x == s) with
  | some y =>
    rw [h1] at h
    simp at h
    subst h
    exact ⟨by simpa using List.find?_some h1, .inl (by simpa using List.mem_of_find?_eq_some h1)⟩
  | none =>
    rw [h1, Option.none_or] at h
    exact ⟨by simpa using List.find?_some h, .inr (List.mem_of_find?_eq_some h)⟩
theorem pick_none_iff (E1 E2 : List S35) (s : List UInt8) : pick E1 E2 s = none ↔ ∀ x, x ∈ E1 ∨ x ∈ E2 → key x ≠ s := by
  unfold pick
  simp only [Option.or_eq_none_iff, List.find?_eq_none, List.mem_reverse, beq_iff_eq]
  constructor
  · rintro ⟨h1, h2⟩ x (h | h)
    · exact h1 x h
    · exact h2 x h
  · intro h
    exact ⟨fun x hx => h x (.inl hx), fun x hx => h x (.inr hx)⟩
theorem pick_layer {E1 E2 : List S35} {s : List UInt8} {x : S35} (h : pick E1 [] s = some x) : pick E1 E2 s = some x := by
  unfold pick at *
  simp at h
  simp [h]
/-- The map holds, for each name, an info of its entry. -/
def Chosen (w : World) (E1 E2 : List S35) (F : Lit → Option Nat) : Prop :=
  (∀ s, F (.string s) = none → pick E1 E2 s = none) ∧ ∀ kl p, F kl = some p → ∃ s x fd A c, kl = .string s ∧ pick E1 E2 s = some x ∧ InfoIs w p fd (fdOf x A c)
theorem Chosen.start (w : World) : Chosen w [] [] (fun _ => none) := ⟨fun s _ => rfl, fun kl p h => by cases h⟩
theorem Chosen.wrote {w w' : World} {S : Nat → Prop} {E1 E2 : List S35} {F : Lit → Option Nat} (h : Chosen w E1 E2 F) (hw : Wrote S w w') (h1 : ∀ k, S k → ¬ Typed w k tI) (h2 : ∀ k, S k → ¬ Typed w k tD) : Chosen w' E1 E2 F := by
  refine ⟨h.1, fun kl p hp => ?_⟩
  obtain ⟨s, x, fd, A, c, e, hpk, hi⟩ := h.2 kl p hp
  exact ⟨s, x, fd, A, c, e, hpk, hi.wrote hw (fun hs => h1 p hs (Typed.of hi.1)) (fun hs => h2 fd hs (Typed.of hi.2))⟩
theorem Chosen.below {w w' : World} {E1 E2 : List S35} {F : Lit → Option Nat} (h : Chosen w E1 E2 F) (hb : Below w.heap.size w w') : Chosen w' E1 E2 F := h.wrote (S := fun _ => False) (Wrote.of_below hb) (fun _ e => e.elim) (fun _ e => e.elim)
theorem Chosen.put1 {w : World} {E1 : List S35} {F : Lit → Option Nat} {x : S35} {p fd : Nat} {A : Option Addr} {c : Nat} (h : Chosen w E1 [] F) (hi : InfoIs w p fd (fdOf x A c)) : Chosen w (E1 ++ [x]) [] (upd F (.string (key x)) (some p)) := by
  refine ⟨fun s hs => ?_, fun kl q hq => ?_⟩
  · rw [pick_first]
    by_cases e : key x = s
    · subst e; rw [upd_same] at hs; cases hs
    · rw [if_neg e]
      rw [upd_other F _ (by intro e2; injection e2 with e2; exact e e2.symm)] at hs
      exact h.1 s hs
  · by_cases e : kl = .string (key x)
    · subst e
      rw [upd_same] at hq
      cases hq
      exact ⟨key x, x, fd, A, c, rfl, by rw [pick_first, if_pos rfl], hi⟩
    · rw [upd_other F _ e] at hq
      obtain ⟨s, y, fd', A', c', e1, e2, e3⟩ := h.2 kl q hq
      refine ⟨s, y, fd', A', c', e1, ?_, e3⟩
      rw [pick_first, if_neg (fun e4 => e (by rw [e1, e4]))]
      exact e2
theorem Chosen.put2 {w : World} {E1 E2 : List S35} {F : Lit → Option Nat} {x : S35} {p fd : Nat} {A : Option Addr} {c : Nat} (h : Chosen w E1 E2 F) (hf : F (.string (key x)) = none) (hi : InfoIs w p fd (fdOf x A c)) : Chosen w E1 (E2 ++ [x]) (upd F (.string (key x)) (some p)) := by
  have hn := h.1 _ hf
  refine ⟨fun s hs => ?_, fun kl q hq => ?_⟩
  · rw [pick_second]
    by_cases e : key x = s
    · subst e; rw [upd_same] at hs; cases hs
    · rw [upd_other F _ (by intro e2; injection e2 with e2; exact e e2.symm)] at hs
      rw [h.1 s hs, if_neg e]; rfl
  · by_cases e : kl = .string (key x)
    · subst e
      rw [upd_same] at hq
      cases hq
      exact ⟨key x, x, fd, A, c, rfl, by rw [pick_second, hn, if_pos rfl]; rfl, hi⟩
    · rw [upd_other F _ e] at hq
      obtain ⟨s, y, fd', A', c', e1, e2, e3⟩ := h.2 kl q hq
      exact ⟨s, y, fd', A', c', e1, by rw [pick_second, e2]; rfl, e3⟩
theorem Chosen.skip {w : World} {E1 E2 : List S35} {F : Lit → Option Nat} {x : S35} {p : Nat} (h : Chosen w E1 E2 F) (hf : F (.string (key x)) = some p) : Chosen w E1 (E2 ++ [x]) F := by
  obtain ⟨s0, y0, _, _, _, e0, hp0, _⟩ := h.2 _ _ hf
  injection e0 with e0
  subst e0
  refine ⟨fun s hs => ?_, fun kl q hq => ?_⟩
  · rw [pick_second, h.1 s hs]
    by_cases e : key x = s
    · subst e; rw [hf] at hs; cases hs
    · rw [if_neg e]; rfl
  · obtain ⟨s, y, fd', A', c', e1, e2, e3⟩ := h.2 kl q hq
    exact ⟨s, y, fd', A', c', e1, by rw [pick_second, e2]; rfl, e3⟩
end Go.Proofs.Ytfanlhkpblemgaa
