/- FnHandlePlaces: onOne with steps that may tell errors; the deeds that come in; zzFits13. -/
import Derived.Test.YtnkhfdnahnphdaaDoorHqWalk
import Derived.Test.YtnkhfdnahnphdaaDoorOp
import Derived.Maps.RangeWalk
import Derived.Maps.Views
namespace Go.Proofs.YtnkhfdnahnphdaaDoor
open Go.ChangeShapes Go.WideShapes Go.ChangeAt Go.RowKit Go.Rd
set_option linter.unusedVariables false
open Go.Proofs.YtnkhfdnahnphdaaDoorW.PrintWords Go.Proofs.YtnkhfdnahnphdaaDoorW.PrintLast Go.Proofs.YtnkhfdnahnphdaaDoorW.PrintMore

theorem RunsE.len {s sn : St} {L : List (Stp × List Int)} {l : List Ans} (h : RunsE s L l sn) : l.length = L.length := by
  induction h with
  | nil => rfl
  | cons _ _ ih => simp [ih]
theorem RunsE.snoc {s s' s'' : St} {L : List (Stp × List Int)} {l : List Ans} {x : Stp × List Int} {a : Ans} (h : RunsE s L l s') (hx : StepOkE s' x a s'') : RunsE s (L ++ [x]) (l ++ [a]) s'' := by
  induction h with
  | nil s => exact .cons hx (.nil _)
  | cons h1 _ ih => exact .cons h1 (ih hx)

set_option maxHeartbeats 1000000 in
theorem one_anyE (dA : Option Addr) (dm dc : Nat) (data : List Int) (A : Option Addr) (c : Nat) (L : List (Stp × List Int)) (answers : List Ans) (sn : St) (w : World) (hb : BytesIn w dA dm dc data) (hdm : dm ≤ 4294967296)
    (hS : ReadsRow (StepK w) 10 w A L.length L) (hL : L.length ≤ 1000000) (hR : Hid (RunsE ⟨0, false, false, data⟩ L answers sn)) (hsn : sn.bs.length ≤ 4294967296) (hse : Hid (∃ ad, Sents w.heap.size w ad)) :
    Calls Tryd.prog 12 #[.slice dA dm dc, .slice A L.length c] w fun e w' => ∃ v lA lc, e = .returned (.tuple #[v, .slice lA sn.bs.length lc, .bool true]) ∧ OwnRow (AnsK w' (fun _ => False)) 42 6 w' w.heap.size v answers ∧ BytesIn w' lA sn.bs.length lc sn.bs ∧ Below w.heap.size w w' := by
  have hlen := Lib.hid (RunsE.len hR.out)
  go_enter Tryd.func12, Tryd.ntmps12
  go_wp2_with (go_at_call 14; refine (script_anyE dA dm dc data false A c L answers sn w hb hdm hS hL hR hsn hse).mono ?_; rintro e w1 ⟨v, lA, lc, rfl, hO, hb1, hB1⟩; obtain ⟨Av, cv, ev, hlv⟩ := OwnRow.slice_ hO; rw [hlen.out] at ev hlv; subst ev)
  go_ret3
  exact ⟨_, lA, lc, rfl, hO, hb1, hB1⟩

/-- The fields of a deed. -/
abbrev deedKs : List Go.Rd.Kd := [.num .i64, .num .i64, .num .i64, .bytes]
/-- The deed at an index of a row that came in. -/
theorem deed_at {w : World} {A : Option Addr} {n c : Nat} (h : IsRows deedKs w A n c) (k : Nat) (hk : k < n) :
    ∃ b off op hh at_ A2 n2 c2 zs, A = some ⟨b, off, none⟩ ∧ b < w.heap.size ∧ w.cell? ⟨b, off + k * 4, none⟩ = some (.int .i64 op) ∧ w.cell? ⟨b, off + k * 4 + 1, none⟩ = some (.int .i64 hh) ∧ w.cell? ⟨b, off + k * 4 + 2, none⟩ = some (.int .i64 at_) ∧
      w.cell? ⟨b, off + k * 4 + 3, none⟩ = some (.slice A2 n2 c2) ∧ BytesIn w A2 n2 c2 zs ∧ (Lit.int .i64 op).wf = true ∧ (Lit.int .i64 at_).wf = true := by
  rcases h with ⟨rfl, rfl, rfl⟩ | ⟨ad, rfl, h1, h2, h3⟩
  · omega
  · obtain ⟨b, off, sp⟩ := ad
    obtain ⟨v0, hc0, ⟨op, rfl, w0⟩⟩ := h3 k 0 _ (by omega) rfl
    obtain ⟨v1, hc1, ⟨hh, rfl, w1⟩⟩ := h3 k 1 _ (by omega) rfl
    obtain ⟨v2, hc2, ⟨at_, rfl, w2⟩⟩ := h3 k 2 _ (by omega) rfl
    obtain ⟨v3, hc3, ⟨A2, n2, c2, zs, rfl, hr⟩⟩ := h3 k 3 _ (by omega) rfl
    have hs : sp = none := by
      obtain ⟨u0, hc, ⟨op0, rfl, _⟩⟩ := h3 0 0 _ (by omega) rfl
      cases sp with
      | none => rfl
      | some s =>
        simp [Addr.add, World.cell?] at hc
        split at hc <;> simp at hc
    subst hs
    have e : deedKs.length = 4 := rfl
    rw [e, addr_add] at hc0 hc1 hc2 hc3
    exact ⟨b, off, op, hh, at_, A2, n2, c2, _, rfl, cell_lt hc0, hc0, by rw [Nat.add_assoc]; exact hc1, by rw [Nat.add_assoc]; exact hc2, by rw [Nat.add_assoc]; exact hc3, BytesIn.of_row hr, w0, w2⟩

/-- Some bool, and new memory alone. -/
def SomeBool (w : World) (e : Ending) (w' : World) : Prop := ∃ r : Bool, e = .returned (.bool r) ∧ Below w.heap.size w w'
set_option maxHeartbeats 1000000 in
theorem fits14_any (op hh at_ : Int) (A : Option Addr) (n c : Nat) (w : World) : Calls Tryd.prog 19 #[.agg #[.int .i64 op, .int .i64 hh, .int .i64 at_, .slice A n c]] w (SomeBool w) := by
  by_cases g : 2147483647 < n
  · go_enter Tryd.func19, Tryd.ntmps19
    go_wp2
    go_ret
    exact ⟨_, rfl, (Below.refl _ _).alloc (Nat.le_refl _) _⟩
  · go_enter Tryd.func19, Tryd.ntmps19
    go_wp2
    go_ret
    exact ⟨_, rfl, (Below.refl _ _).alloc (Nat.le_refl _) _⟩
/-- The state of the loop of zzFits13. -/
def FitsRel (w : World) (n : Nat) (i : Value) (wr : World) : Prop := ∃ k : Nat, k ≤ n ∧ i = .int .i64 k ∧ Below w.heap.size w wr
set_option maxRecDepth 100000 in
set_option maxHeartbeats 2000000 in
theorem fits13_any (A : Option Addr) (n c : Nat) (w : World) (h : IsRows deedKs w A n c) (hn : n ≤ 2147483647) : Calls Tryd.prog 9 #[.slice A n c] w (SomeBool w) := by
  have HR := Lib.hid h
  clear h
  go_enter Tryd.func9, Tryd.ntmps9
  go_wp2
  go_loopw [10] (fun i wr => FitsRel w n i wr) (fun i _ => n - (intOf i).toNat)
  case atStart => exact ⟨0, Nat.zero_le _, rfl, Below.refl _ _⟩
  case round =>
    obtain ⟨k, hk, rfl, hB⟩ := hrel
    by_cases hlt : k < n
    · obtain ⟨b, off, op, hh, at_, A2, n2, c2, zs, rfl, hbl, x0, x1, x2, x3, hby, _, _⟩ := deed_at HR.out k hlt
      have y0 := (hB.cell (p := ⟨b, off + k * 4, none⟩) hbl).trans x0
      have y1 := (hB.cell (p := ⟨b, off + k * 4 + 1, none⟩) hbl).trans x1
      have y2 := (hB.cell (p := ⟨b, off + k * 4 + 2, none⟩) hbl).trans x2
      have y3 := (hB.cell (p := ⟨b, off + k * 4 + 3, none⟩) hbl).trans x3
      clear x0 x1 x2 x3 hby
      have hBa : ∀ o, Below w.heap.size w (wr.alloc o) := fun o => hB.alloc hB.size o
      go_wp2_with fail
      refine (fits14_any op hh at_ A2 n2 c2 _).mono ?_
      rintro e w1 ⟨r, rfl, hB1⟩
      have hB2 := (hBa _).trans (hB1.mono (hBa _).size)
      cases r with
      | true =>
        go_wp2
        exact ⟨⟨k + 1, by omega, by go_num, hB2⟩, by simp [intOf]; omega⟩
      | false =>
        go_wp2
        go_ret
        exact ⟨_, rfl, hB2⟩
    · go_wp2
      go_ret
      exact ⟨_, rfl, hB⟩
end Go.Proofs.YtnkhfdnahnphdaaDoor
