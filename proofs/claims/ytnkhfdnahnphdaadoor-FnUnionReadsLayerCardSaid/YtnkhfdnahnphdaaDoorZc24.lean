/- Parts of the proof, merged: SkWalk, St, Op, UlWalk, UoWalk. -/
import Derived.ChangeArms
import Derived.ChangeSame
import Derived.ChangeSlices
import Derived.Deep.Slices
import Derived.IntWalk
import Derived.LaidLaws
import Derived.OpenShut
import Derived.Test.YtnkhfdnahnphdaaDoorRows
import Derived.Test.YtnkhfdnahnphdaaDoorZc01
import Derived.Test.YtnkhfdnahnphdaaDoorZc03
import Derived.Test.YtnkhfdnahnphdaaDoorZc04
import Derived.Test.YtnkhfdnahnphdaaDoorZc11
import Derived.Test.YtnkhfdnahnphdaaDoorZc23
section
namespace Go.Proofs.YtnkhfdnahnphdaaDoor
open Go.ChangeShapes Go.WideShapes Go.ChangeAt Go.RowKit Go.Rd
open Go.Proofs.YtnkhfdnahnphdaaDoorW.PrintWords Go.Proofs.YtnkhfdnahnphdaaDoorW.PrintLast Go.Proofs.YtnkhfdnahnphdaaDoorW.PrintMore
theorem C_of_bytes {w : World} {A : Option Addr} {n c : Nat} {l : List Int} (h : BytesIn w A n c l) : Kd.C (Kd.int .u8) w A n l := by
  refine ⟨h.len, by have := h.le; have := h.max; simp [maxLen] at this; omega, fun hn => ?_⟩
  cases A with
  | none => have := (h.nil rfl).1; omega
  | some ad =>
    refine ⟨ad, rfl, fun j p hj => ⟨[.int .u8 p], rfl, rfl, fun i u hu => ?_⟩⟩
    have hi : i = 0 := by
      have := (List.getElem?_eq_some_iff.1 hu).1
      simp at this; omega
    subst hi
    cases hu
    have e : j * (Kd.int IntKind.u8).sz + 0 = j := by
      have : (Kd.int IntKind.u8).sz = 1 := rfl
      rw [this]; omega
    rw [e]
    exact h.cells ad rfl j _ (by simp [hj])
theorem bytes_string {w : World} {A : Option Addr} {n c : Nat} {l : List Int} (h : BytesIn w A n c l) : (convert 22 9 (.slice A n c)).run Tryd.prog w = .ok (.string (strOfNums l)) w :=
  Kd.C_string Tryd.underlying22 Tryd.underlying5 Tryd.underlying9 (C_of_bytes h)
end Go.Proofs.YtnkhfdnahnphdaaDoor
end
section
namespace Go.Rd
open Go.ChangeShapes Go.WideShapes Go.Deep
/-- The kinds of fields. -/
inductive Kd where
  | str | num (k : IntKind) | flag | bytes
def KdOf (P : Program) (t : TypeId) : Kd → Prop
  | .str => P.underlying t = some .string ∧ P.cellsOf t = 1
  | .num k => P.underlying t = some (.int k) ∧ P.cellsOf t = 1
  | .flag => P.underlying t = some .bool ∧ P.cellsOf t = 1
  | .bytes => ∃ e, P.underlying t = some (.slice e) ∧ P.underlying e = some (.int .u8) ∧ P.cellsOf e = 1 ∧ P.cellsOf t = 1
def CellIs (W : World) : Kd → Value → Prop
  | .str, v => ∃ s : ByteArray, v = .string s ∧ s.size ≤ maxLen
  | .num k, v => ∃ n, v = .int k n ∧ (Lit.int k n).wf = true
  | .flag, v => ∃ b, v = .bool b
  | .bytes, v => ∃ a len cap zs, v = .slice a len cap ∧ IsRow .u8 W a len cap zs
structure StructOf (P : Program) (te : TypeId) (ks : List Kd) : Prop where
  fs : ∃ fs : Array Field, P.underlying te = some (.struct fs) ∧ fs.size = ks.length ∧ ∀ (i : Nat) k f, ks[i]? = some k → fs[i]? = some f → KdOf P f.type k ∧ f.offset = i
  cells : P.cellsOf te = ks.length
theorem kd_cells {P : Program} {t : TypeId} : ∀ {k : Kd}, KdOf P t k → P.cellsOf t = 1
  | .str, h => h.2
  | .num _, h => h.2
  | .flag, h => h.2
  | .bytes, h => by obtain ⟨_, _, _, _, h⟩ := h; exact h
variable {H : Type} {enc : TypeId × Value → H} {P : Program} {w : World} {base : Nat} {held : Bool}
theorem cell_is {t : TypeId} {fuel : Nat} {cs : List Value} {x : DataW H × List MemPlace} : ∀ {k : Kd}, KdOf P t k → DataW.trod enc P w base (fun _ => true) held fuel t cs = some x → ∃ v, cs = [v] ∧ CellIs w k v
  | .str, hk, h => by
    obtain ⟨s, rfl, _, hs⟩ := DataW.trod_string hk.1 h
    exact ⟨_, rfl, s, rfl, hs⟩
  | .num k, hk, h => by
    obtain ⟨n, rfl, _, hn⟩ := DataW.trod_int hk.1 h
    exact ⟨_, rfl, n, rfl, hn⟩
  | .flag, hk, h => by
    obtain ⟨b, rfl, _⟩ := DataW.trod_bool hk.1 h
    exact ⟨_, rfl, b, rfl⟩
  | .bytes, hk, h => by
    obtain ⟨e, h1, h2, h3, _⟩ := hk
    rcases open_ints h1 h2 h3 h with ⟨rfl, _⟩ | ⟨a, len, cap, zs, rfl, _, hl, hm, hz, _, hcell, hw⟩
    · exact ⟨_, rfl, none, 0, 0, [], rfl, .inl ⟨rfl, rfl, rfl, rfl⟩⟩
    · exact ⟨_, rfl, some a, len, cap, zs, rfl, .inr ⟨a, rfl, hl, hm, by simpa using hz, hcell, hw⟩⟩
theorem struct_is {te : TypeId} {ks : List Kd} (hs : StructOf P te ks) {fuel : Nat} {cs : List Value} {x : DataW H × List MemPlace} (h : DataW.trod enc P w base (fun _ => true) held fuel te cs = some x) :
    cs.length = ks.length ∧ ∀ (j : Nat) k, ks[j]? = some k → ∃ v, cs[j]? = some v ∧ CellIs w k v := by
  obtain ⟨fs, hu, hsz, hf⟩ := hs.fs
  obtain ⟨xs, n, _, _, hl, hxl, hat⟩ := DataW.trod_struct hu h
  rw [hs.cells] at hl
  refine ⟨hl, fun j k hk => ?_⟩
  have hj : j < ks.length := (List.getElem?_eq_some_iff.1 hk).1
  have hfj : fs[j]? = some (fs[j]'(by omega)) := Array.getElem?_eq_getElem (by omega)
  obtain ⟨hkd, ho⟩ := hf j k _ hk hfj
  have h1 := hat j _ hfj
  rw [List.getElem?_eq_getElem (by omega), kd_cells hkd, ho] at h1
  obtain ⟨v, hv, hc⟩ := cell_is hkd h1
  refine ⟨v, ?_, hc⟩
  have := congrArg (·[0]?) hv
  simpa [List.getElem?_take, List.getElem?_drop] using this
/-- A row of structs in memory: its slice's parts, and what each field's cell holds. -/
def IsRows (ks : List Kd) (w : World) (a : Option Addr) (len cap : Nat) : Prop :=
  (a = none ∧ len = 0 ∧ cap = 0) ∨
  ∃ x, a = some x ∧ len ≤ cap ∧ cap ≤ maxLen ∧ ∀ (i j : Nat) k, i < cap → ks[j]? = some k → ∃ v, w.cell? (x.add (i * ks.length + j)) = some v ∧ CellIs w k v
theorem add_add (a : Addr) (m n : Nat) : (a.add m).add n = a.add (m + n) := by
  unfold Addr.add
  by_cases hm : m = 0
  · subst hm; simp
  · by_cases hn : n = 0
    · subst hn; simp [hm]
    · have : ¬ (m = 0 ∧ n = 0) := by omega
      have h2 : m + n ≠ 0 := by omega
      simp [hm, hn, Nat.add_assoc]
theorem rows_of_trod {t te : TypeId} {ks : List Kd} (ht : P.underlying t = some (.slice te)) (hs : StructOf P te ks) {fuel : Nat} {cs : List Value} {x : DataW H × List MemPlace} (h : DataW.trod enc P w base (fun _ => true) held fuel t cs = some x) :
    ∃ a len cap, cs = [.slice a len cap] ∧ IsRows ks w a len cap := by
  rcases open_slice ht h with ⟨rfl, _⟩ | ⟨a, len, cap, m, n, D, Pl, rfl, _, hl, hm, hmm, _, hx⟩
  · exact ⟨none, 0, 0, rfl, .inl ⟨rfl, rfl, rfl⟩⟩
  · refine ⟨some a, len, cap, rfl, .inr ⟨a, rfl, hl, hm, fun i j k hi hk => ?_⟩⟩
    obtain ⟨cs', h1, h2⟩ := hx i (by rw [hmm]; simpa using hi)
    rw [hs.cells] at h1
    obtain ⟨_, hlen, hcell⟩ := World.cells?_some h1
    obtain ⟨_, hf⟩ := struct_is hs h2
    obtain ⟨v, hv, hc⟩ := hf j k hk
    have hj : j < ks.length := (List.getElem?_eq_some_iff.1 hk).1
    refine ⟨v, ?_, hc⟩
    have := hcell j hj
    rw [hv] at this
    rw [← this]
    congr 1
    exact (add_add _ _ _).symm
end Go.Rd
end
section
namespace Go.Proofs.YtnkhfdnahnphdaaDoor
open Go.RowKit Go.Rd Go.Proofs.YtnkhfdnahnphdaaDoorW.PrintWords Go.Proofs.YtnkhfdnahnphdaaDoorW.PrintLast Go.Proofs.YtnkhfdnahnphdaaDoorW.PrintMore
theorem list_of {α : Type} {P : Nat → α → Prop} : ∀ n, (∀ i, i < n → ∃ x, P i x) → ∃ l : List α, l.length = n ∧ ∀ i x, l[i]? = some x → P i x
  | 0, _ => ⟨[], rfl, fun i x h => by simp at h⟩
  | n + 1, h => by
    obtain ⟨l, hl, hp⟩ := list_of n (fun i hi => h i (by omega))
    obtain ⟨x, hx⟩ := h n (by omega)
    refine ⟨l ++ [x], by simp [hl], fun i y hy => ?_⟩
    rcases Nat.lt_or_ge i l.length with hi | hi
    · rw [List.getElem?_append_left hi] at hy
      exact hp i y hy
    · have hi' : i = n := by
        have := (List.getElem?_eq_some_iff.1 hy).1
        simp at this; omega
      subst hi'
      rw [← hl, List.getElem?_concat_length] at hy
      cases hy
      exact hx
end Go.Proofs.YtnkhfdnahnphdaaDoor
end
section
namespace Go.Proofs.YtnkhfdnahnphdaaDoor
open Go.ChangeShapes Go.WideShapes Go.ChangeAt Go.RowKit Go.Rd
open Go.Proofs.YtnkhfdnahnphdaaDoorW.PrintWords Go.Proofs.YtnkhfdnahnphdaaDoorW.PrintLast Go.Proofs.YtnkhfdnahnphdaaDoorW.PrintMore
set_option linter.unusedVariables false
set_option linter.unusedSectionVars false
theorem fits_step (x : Stp) (w : World) : Calls Tryd.prog 25 #[x.val] w fun e w' => ∃ r : Bool, e = .returned (.bool r) ∧ Below w.heap.size w w' := by
  obtain ⟨op, name, other, flag, perm, hh, da, dl, dc, off, wh, nn⟩ := x
  unfold Stp.val
  simp only
  by_cases g1 : name.size ≤ 2147483647
  rotate_left
  · have g : 2147483647 < name.size := by omega
    clear g1
    go_enter Tryd.func25, Tryd.ntmps25
    go_wp2
    go_ret
    exact ⟨false, rfl, (Below.refl _ _).alloc (Nat.le_refl _) _⟩
  by_cases g2 : other.size ≤ 2147483647
  rotate_left
  · have g : 2147483647 < other.size := by omega
    clear g2
    go_enter Tryd.func25, Tryd.ntmps25
    go_wp2
    go_ret
    exact ⟨false, rfl, (Below.refl _ _).alloc (Nat.le_refl _) _⟩
  by_cases g3 : dl ≤ 2147483647
  rotate_left
  · have g : 2147483647 < dl := by omega
    clear g3
    go_enter Tryd.func25, Tryd.ntmps25
    go_wp2
    go_ret
    exact ⟨false, rfl, (Below.refl _ _).alloc (Nat.le_refl _) _⟩
  · go_enter Tryd.func25, Tryd.ntmps25
    go_wp2
    go_ret
    exact ⟨true, rfl, (Below.refl _ _).alloc (Nat.le_refl _) _⟩
/-- Whether the sizes fit, whatever comes of it. -/
def FitsPost (w : World) (e : Ending) (w' : World) : Prop := ∃ r : Bool, e = .returned (.bool r) ∧ Below w.heap.size w w'
set_option maxHeartbeats 1000000 in
theorem fits_steps (A : Option Addr) (c : Nat) (L : List Sx) (w : World) (hS : ReadsRow (StepK w) 10 w A L.length L) : Calls Tryd.prog 15 #[.slice A L.length c] w (FitsPost w) := by
  by_cases g1 : L.length ≤ 2147483647
  rotate_left
  · have g : 2147483647 < L.length := by omega
    clear g1
    go_enter Tryd.func15, Tryd.ntmps15
    go_wp2
    go_ret
    exact ⟨false, rfl, Below.refl _ _⟩
  go_enter Tryd.func15, Tryd.ntmps15
  go_wp2_with fail
  go_loopw [10] (fun i wr => ∃ k : Nat, k ≤ L.length ∧ i = .int .i64 k ∧ Below w.heap.size w wr) (fun i _ => L.length - (intOf i).toNat)
  case atStart => exact ⟨0, Nat.zero_le _, rfl, Below.refl _ _⟩
  case round =>
    obtain ⟨k, hk, rfl, hB⟩ := hrel
    by_cases hlt : k < L.length
    · obtain ⟨b, off, eA, hbl, hbk, x0, x1, x2, x3, x4, x5, x6, x7, x8, x9⟩ := steps_at hS k hlt
      subst eA
      have hBC : ∀ j v, w.cell? ⟨b, j, none⟩ = some v → wr.cell? ⟨b, j, none⟩ = some v := fun j v h => (hB.cell (p := ⟨b, j, none⟩) hbl).trans h
      have y0 := hBC _ _ x0
      have y1 := hBC _ _ x1
      have y2 := hBC _ _ x2
      have y3 := hBC _ _ x3
      have y4 := hBC _ _ x4
      have y5 := hBC _ _ x5
      have y6 := hBC _ _ x6
      have y7 := hBC _ _ x7
      have y8 := hBC _ _ x8
      have y9 := hBC _ _ x9
      clear hBC x0 x1 x2 x3 x4 x5 x6 x7 x8 x9 hbk
      have hz := fits_step L[k].1
      generalize L[k] = xk at *
      obtain ⟨⟨op, name, other, flag, perm, hh, da, dl, dc, off', wh, n⟩, bb⟩ := xk
      unfold Stp.val at hz
      simp only at y0 y1 y2 y3 y4 y5 y6 y7 y8 y9 hz
      have HZ := Lib.hid hz
      clear hz
      go_wp2_with (go_at_call 25; refine (HZ.out _).mono ?_; rintro e w2 ⟨r, rfl, hB2⟩; have hB3 := (hB.alloc hB.size (.cells #[.int .i64 op, .string name, .string other, .int .i64 flag, .int .i64 perm, .int .i64 hh, .slice da dl dc, .int .i64 off', .int .i64 wh, .int .i64 n] 33)); have hB4 := hB3.trans (hB2.mono hB3.size); clear hB2 hB3; cases r)
      · go_ret
        exact ⟨false, rfl, hB4⟩
      · go_roundw
        case rel => exact ⟨k + 1, by omega, by go_num, hB4⟩
        case measure => simp [intOf]; omega
    · obtain rfl : k = L.length := by omega
      go_wp2_with fail
      go_ret
      exact ⟨true, rfl, hB⟩
theorem fit_of {w : World} {A : Option Addr} {L : List Sx} (hS : ReadsRow (StepK w) 10 w A L.length L) : FitL L := by
  intro x hx
  obtain ⟨k, hk, rfl⟩ := List.getElem_of_mem hx
  obtain ⟨b, off, eA, hbl, hbk, _⟩ := steps_at hS k hk
  exact ⟨hbk.len, hbk.fits⟩
theorem steps_below {w w' : World} {A : Option Addr} {L : List Sx} (hS : ReadsRow (StepK w) 10 w A L.length L) (hB : Below w.heap.size w w') : ReadsRow (StepK w') 10 w' A L.length L := by
  refine ⟨hS.1, hS.2.1, fun hpos => ?_⟩
  obtain ⟨ad, e, hc⟩ := hS.2.2 hpos
  refine ⟨ad, e, fun j p hj => ?_⟩
  obtain ⟨cs, h1, ⟨h2, h3⟩, h4⟩ := hc j p hj
  exact ⟨cs, h1, ⟨h2, h3.below hB⟩, fun i u hu => (hB.cell (cell_lt (h4 i u hu))).trans (h4 i u hu)⟩
theorem ansN_cells {w : World} {B : Nat} {v : Value} {l : List Ans} (hO : OwnRow (AnsN w (fun _ => False)) 42 6 w B v l) (hne : 0 < l.length) :
    ∃ g c, v = .slice (some ⟨g, 0, none⟩) l.length c ∧ l.length ≤ c ∧ g < w.heap.size ∧ ∀ i a, l[i]? = some a → ∃ A k na nc, (w.cell? ⟨g, i * 6, none⟩ = some (.int .i64 a.e) ∧ w.cell? ⟨g, i * 6 + 1, none⟩ = some (.int .i64 a.n) ∧ w.cell? ⟨g, i * 6 + 2, none⟩ = some (.int .i64 a.off) ∧ w.cell? ⟨g, i * 6 + 3, none⟩ = some (.slice A a.data.length k) ∧ w.cell? ⟨g, i * 6 + 4, none⟩ = some (.slice na 0 nc) ∧ w.cell? ⟨g, i * 6 + 5, none⟩ = some (.slice none 0 0)) ∧ BytesIn w A a.data.length k a.data := by
  obtain ⟨inner, hin, hri⟩ := hO
  obtain ⟨g, c, rfl, _, _⟩ := hin.form hne
  have hlc : l.length ≤ c := own_cap hin
  refine ⟨g, c, rfl, hlc, own_lt hin g rfl, fun i a ha => ?_⟩
  obtain ⟨A, k, na, nc, e, hb, _⟩ := hri.2 i a ha
  have hg := hin.cells (g := g) rfl
  have g' : ∀ j u, ((inner.drop (i * 6)).take 6)[j]? = some u → w.cell? ⟨g, i * 6 + j, none⟩ = some u := fun j u hu => by
    have hj : j < 6 := by
      have := (List.getElem?_eq_some_iff.1 hu).1
      simp at this; omega
    rw [List.getElem?_take_of_lt hj, List.getElem?_drop] at hu
    have := hg _ _ hu
    rwa [addr_add, Nat.zero_add] at this
  rw [e] at g'
  exact ⟨A, k, na, nc, ⟨g' 0 _ rfl, g' 1 _ rfl, g' 2 _ rfl, g' 3 _ rfl, g' 4 _ rfl, g' 5 _ rfl⟩, hb⟩
end Go.Proofs.YtnkhfdnahnphdaaDoor
end
section
namespace Go.Proofs.YtnkhfdnahnphdaaDoor
open Go.ChangeShapes Go.WideShapes Go.ChangeAt Go.RowKit Go.Rd
open Go.Proofs.YtnkhfdnahnphdaaDoorW.PrintWords Go.Proofs.YtnkhfdnahnphdaaDoorW.PrintLast Go.Proofs.YtnkhfdnahnphdaaDoorW.PrintMore
set_option linter.unusedVariables false
set_option linter.unusedSectionVars false
def p0 (ro : Bool) (lay bas : List Int) : St × St := (⟨0, false, ro, lay⟩, ⟨0, false, ro, bas⟩)
section
variable (A1 : Option Addr) (m1 c1 : Nat) (l1 : List Int) (A2 : Option Addr) (m2 c2 : Nat) (l2 : List Int) (A3 : Option Addr) (c3 : Nat) (L : List Sx) (w : World) (hb1 : BytesIn w A1 m1 c1 l1) (hb2 : BytesIn w A2 m2 c2 l2) (hS : ReadsRow (StepK w) 10 w A3 L.length L) (hc3 : L.length ≤ c3) (hse : ∃ ad, Sents w.heap.size w ad)
include hb1 hb2 hS hc3 hse
set_option maxRecDepth 100000 in
set_option maxHeartbeats 4000000 in
theorem ro_small (g1 : m1 ≤ 4096) (g2 : m2 ≤ 4096) (g3 : L.length ≤ 20) : Calls Tryd.prog 7 #[.slice A1 m1 c1, .slice A2 m2 c2, .slice A3 L.length c3] w fun e w' => e = .returned (.bool true) ∧ Below w.heap.size w w' := by
  have hfit := fit_of hS
  have hz := fits_steps A3 c3 L w hS
  have hrun := fun (W : World) (hB : Below w.heap.size w W) => Sb.union_run A1 m1 c1 l1 A2 m2 c2 l2 true A3 c3 L W (hb1.below hB) (hb2.below hB) g1 g2 (steps_below hS hB) (by omega) (Lib.hid hfit)
  have hun := fun (W : World) (hB : Below w.heap.size w W) (hsp : SpkAll (⟨0, false, true, l1⟩, ⟨0, false, true, l2⟩) L) => union_script A1 m1 c1 l1 A2 m2 c2 l2 true A3 c3 L W (hb1.below hB) (hb2.below hB) g1 g2 (steps_below hS hB) (by omega) (Lib.hid hsp) (Lib.hid hfit) (Lib.hid (by obtain ⟨ad, h⟩ := hse; exact ⟨ad, (h.below hB).mono hB.size⟩))
  have hro := runP_ro (p := (⟨0, false, true, l1⟩, ⟨0, false, true, l2⟩)) L rfl rfl
  rw [hro.1, hro.2] at hun
  have hans := ansP_eq (⟨0, false, true, l1⟩, ⟨0, false, true, l2⟩) L
  have href := ans1_refuses (s := ⟨0, false, true, l1⟩) (xs := L) rfl
  have hlen : (ansP (⟨0, false, true, l1⟩, ⟨0, false, true, l2⟩) L).length = L.length := ansP_length _ _
  simp only at hun
  rw [hb1.len, hb2.len] at hun
  have HZ := Lib.hid hz
  have HRUN := Lib.hid hrun
  have HUN := Lib.hid hun
  have HREF := Lib.hid href
  have HLEN := Lib.hid hlen
  have HANS := Lib.hid hans
  have HS := Lib.hid hS
  have HB1 := Lib.hid hb1
  have HB2 := Lib.hid hb2
  clear hz hrun hun href hlen hans hS hb1 hb2 hse hro hfit
  have t1 : decide ((2147483647 : Int) < (m1 : Int)) = false := decide_eq_false (by omega)
  have t2 : decide ((2147483647 : Int) < (m2 : Int)) = false := decide_eq_false (by omega)
  have t3 : decide ((20 : Int) < (L.length : Int)) = false := decide_eq_false (by omega)
  have t4 : decide ((4096 : Int) < (m1 : Int)) = false := decide_eq_false (by omega)
  have t5 : decide ((4096 : Int) < (m2 : Int)) = false := decide_eq_false (by omega)
  go_enter Tryd.func7, Tryd.ntmps7
  go_wp2_with (first
    | (go_at_call 16; refine (HRUN.out _ hBz).mono ?_; rintro e w2 ⟨B1, n1, d1, B2, n2, d2, B3, n3, d3, r, rfl, hr, hB2⟩; have hB3 := hBz.trans (hB2.mono hBz.size); clear hB2; cases r)
    | (go_at_call 15; refine HZ.out.mono ?_; rintro e w1 ⟨rz, rfl, hBz⟩; cases rz))
  · go_ret
    exact ⟨rfl, hBz⟩
  · go_ret
    exact ⟨rfl, hB3⟩
  refine (HUN.out _ hB3 (hr (by first | rfl | trivial))).mono ?_
  rintro e w4 ⟨v, lA, lc, bA, bc, rfl, hO4, hb4, hb5, hB4'⟩
  have hB4 := hB3.trans (hB4'.mono hB3.size)
  obtain ⟨Av, cv, rfl⟩ : ∃ Av cv, v = .slice Av L.length cv := by
    obtain ⟨inner, ho, _⟩ := hO4
    obtain ⟨A, c, h⟩ := own_slice ho
    rw [HLEN.out] at h
    exact ⟨A, c, h⟩
  have HO4 := Lib.hid hO4
  have HB4 := Lib.hid hB4
  have HB5 := Lib.hid (show BytesIn w4 lA m1 lc l1 ∧ BytesIn w4 bA m2 bc l2 from ⟨hb4, hb5⟩)
  clear hO4 hb4 hb5 hB4 hB4' hB3 hBz hr HUN HRUN HZ
  go_wp2_with fail
  go_loopw [64] (fun i wr => ∃ k : Nat, k ≤ L.length ∧ i = .int .i64 k ∧ Below w4.heap.size w4 wr) (fun i _ => L.length - (intOf i).toNat)
  case atStart => exact ⟨0, Nat.zero_le _, rfl, Below.refl _ _⟩
  case round =>
    obtain ⟨k, hk, rfl, hBr⟩ := hrel
    by_cases hlt : k < L.length
    · obtain ⟨b, off, eA, hbl, hbk, x0, _, _, _, _, _, _, _, _, _⟩ := steps_at HS.out k hlt
      subst eA
      have hBw := HB4.out.trans (hBr.mono HB4.out.size)
      have y0 := (hBw.cell (p := ⟨b, off + k * 10, none⟩) hbl).trans x0
      obtain ⟨g, c, ev, hlc, hgl, hcells⟩ := ansN_cells HO4.out (by rw [HLEN.out]; omega)
      rw [HLEN.out] at ev hlc
      injection ev with ev1 _ ev2
      subst ev1 ev2
      obtain ⟨a, hak⟩ : ∃ a, (ansP (⟨0, false, true, l1⟩, ⟨0, false, true, l2⟩) L)[k]? = some a := ⟨_, List.getElem?_eq_getElem (by rw [HLEN.out]; exact hlt)⟩
      obtain ⟨Aa, ca, na, nc, ⟨e0, e1, e2, e3, e4, e5⟩, hba⟩ := hcells k a hak
      have d0 := (hBr.cell (p := ⟨g, k * 6, none⟩) hgl).trans e0
      have d1' := (hBr.cell (p := ⟨g, k * 6 + 1, none⟩) hgl).trans e1
      have d2' := (hBr.cell (p := ⟨g, k * 6 + 2, none⟩) hgl).trans e2
      have d3' := (hBr.cell (p := ⟨g, k * 6 + 3, none⟩) hgl).trans e3
      have d4' := (hBr.cell (p := ⟨g, k * 6 + 4, none⟩) hgl).trans e4
      have d5' := (hBr.cell (p := ⟨g, k * 6 + 5, none⟩) hgl).trans e5
      have hblr : b < wr.heap.size := Nat.lt_of_lt_of_le hbl hBw.size
      have y0' : ∀ o, (wr.alloc o).cell? ⟨b, off + k * 10, none⟩ = some (.int .i64 L[k].1.op) := fun o => (World.cell?_of_block (((Below.refl wr.heap.size wr).alloc (Nat.le_refl _) o).block b hblr)).trans y0
      clear e0 e1 e2 e3 e4 e5 hba hcells hbk x0 hBw
      by_cases hop : L[k].1.op = 14 ∨ L[k].1.op = 15 ∨ L[k].1.op = 17
      · have h14 : (L[k].1.op == 14) = true ∨ ((L[k].1.op == 14) = false ∧ (L[k].1.op == 15) = true) ∨ ((L[k].1.op == 14) = false ∧ (L[k].1.op == 15) = false ∧ (L[k].1.op == 17) = true) := by
          rcases hop with h | h | h
          · exact .inl (by simp [h])
          · exact .inr (.inl ⟨by simp [h], by simp [h]⟩)
          · exact .inr (.inr ⟨by simp [h], by simp [h], by simp [h]⟩)
        have hre := HREF.out k _ a (List.getElem?_eq_getElem hlt) (by rw [← HANS.out]; exact hak) hop
        generalize L[k].1.op = op at *
        clear hop hak
        rcases hre with he | he
        all_goals
          rw [he] at d0
          clear he
          rcases h14 with h14 | ⟨h14, h15⟩ | ⟨h14, h15, h17⟩
          all_goals
            go_wp2_with fail
            go_roundw
            case rel => exact ⟨k + 1, by omega, by go_num, hBr.alloc hBr.size _⟩
            case measure => simp [intOf]; omega
      · have h14 : (L[k].1.op == 14) = false := beq_eq_false_iff_ne.2 (fun h => hop (.inl h))
        have h15 : (L[k].1.op == 15) = false := beq_eq_false_iff_ne.2 (fun h => hop (.inr (.inl h)))
        have h17 : (L[k].1.op == 17) = false := beq_eq_false_iff_ne.2 (fun h => hop (.inr (.inr h)))
        generalize L[k].1.op = op at *
        clear hop hak
        go_wp2_with fail
        go_roundw
        case rel => exact ⟨k + 1, by omega, by go_num, hBr.alloc hBr.size _⟩
        case measure => simp [intOf]; omega
    · obtain rfl : k = L.length := by omega
      have hBw := HB4.out.trans (hBr.mono HB4.out.size)
      have z1 := bytes_string (HB5.out.1.below hBr)
      have z2 := bytes_string (HB5.out.2.below hBr)
      have z3 := bytes_string (HB1.out.below hBw)
      have z4 := bytes_string (HB2.out.below hBw)
      go_wp2_with fail
      go_ret
      exact ⟨rfl, hBw⟩
set_option maxRecDepth 100000 in
set_option maxHeartbeats 2000000 in
theorem ro_law : Calls Tryd.prog 7 #[.slice A1 m1 c1, .slice A2 m2 c2, .slice A3 L.length c3] w fun e w' => e = .returned (.bool true) ∧ Below w.heap.size w w' := by
  have HZ := Lib.hid (fits_steps A3 c3 L w hS)
  by_cases t1 : m1 ≤ 2147483647
  rotate_left
  · have t1 : decide ((2147483647 : Int) < (m1 : Int)) = true := decide_eq_true (by omega)
    clear hse hS hb1 hb2 HZ
    go_enter Tryd.func7, Tryd.ntmps7
    go_wp2_with fail
    go_ret
    exact ⟨rfl, Below.refl _ _⟩
  by_cases t2 : m2 ≤ 2147483647
  rotate_left
  · have t1 : decide ((2147483647 : Int) < (m1 : Int)) = false := decide_eq_false (by omega)
    have t2 : decide ((2147483647 : Int) < (m2 : Int)) = true := decide_eq_true (by omega)
    clear hse hS hb1 hb2 HZ
    go_enter Tryd.func7, Tryd.ntmps7
    go_wp2_with fail
    go_ret
    exact ⟨rfl, Below.refl _ _⟩
  by_cases g3 : L.length ≤ 20
  rotate_left
  · have t1 : decide ((2147483647 : Int) < (m1 : Int)) = false := decide_eq_false (by omega)
    have t2 : decide ((2147483647 : Int) < (m2 : Int)) = false := decide_eq_false (by omega)
    have t3 : decide ((20 : Int) < (L.length : Int)) = true := decide_eq_true (by omega)
    clear hse hS hb1 hb2 g3
    go_enter Tryd.func7, Tryd.ntmps7
    go_wp2_with (go_at_call 15; refine HZ.out.mono ?_; rintro e w1 ⟨rz, rfl, hBz⟩; cases rz)
    all_goals
      go_ret
      exact ⟨rfl, hBz⟩
  by_cases g1 : m1 ≤ 4096
  rotate_left
  · have t1 : decide ((2147483647 : Int) < (m1 : Int)) = false := decide_eq_false (by omega)
    have t2 : decide ((2147483647 : Int) < (m2 : Int)) = false := decide_eq_false (by omega)
    have t3 : decide ((20 : Int) < (L.length : Int)) = false := decide_eq_false (by omega)
    have t4 : decide ((4096 : Int) < (m1 : Int)) = true := decide_eq_true (by omega)
    clear hse hS hb1 hb2 g1
    go_enter Tryd.func7, Tryd.ntmps7
    go_wp2_with (go_at_call 15; refine HZ.out.mono ?_; rintro e w1 ⟨rz, rfl, hBz⟩; cases rz)
    all_goals
      go_ret
      exact ⟨rfl, hBz⟩
  by_cases g2 : m2 ≤ 4096
  rotate_left
  · have t1 : decide ((2147483647 : Int) < (m1 : Int)) = false := decide_eq_false (by omega)
    have t2 : decide ((2147483647 : Int) < (m2 : Int)) = false := decide_eq_false (by omega)
    have t3 : decide ((20 : Int) < (L.length : Int)) = false := decide_eq_false (by omega)
    have t4 : decide ((4096 : Int) < (m1 : Int)) = false := decide_eq_false (by omega)
    have t5 : decide ((4096 : Int) < (m2 : Int)) = true := decide_eq_true (by omega)
    clear hse hS hb1 hb2 g2
    go_enter Tryd.func7, Tryd.ntmps7
    go_wp2_with (go_at_call 15; refine HZ.out.mono ?_; rintro e w1 ⟨rz, rfl, hBz⟩; cases rz)
    all_goals
      go_ret
      exact ⟨rfl, hBz⟩
  · exact ro_small A1 m1 c1 l1 A2 m2 c2 l2 A3 c3 L w hb1 hb2 hS hc3 hse g1 g2 g3
end
def stepKs : List Go.Rd.Kd := [.num .i64, .str, .str, .num .i64, .num .i64, .num .i64, .bytes, .num .i64, .num .i64, .num .i64]
theorem step_struct : StructOf Tryd.prog 33 stepKs where
  fs := ⟨_, Tryd.underlying33, rfl, fun i k f hk hf => by
    match i, hk, hf with
    | 0, hk, hf => cases hk; cases hf; exact ⟨⟨Tryd.underlying3, by kernel_rfl⟩, rfl⟩
    | 1, hk, hf => cases hk; cases hf; exact ⟨⟨Tryd.underlying9, by kernel_rfl⟩, rfl⟩
    | 2, hk, hf => cases hk; cases hf; exact ⟨⟨Tryd.underlying9, by kernel_rfl⟩, rfl⟩
    | 3, hk, hf => cases hk; cases hf; exact ⟨⟨Tryd.underlying3, by kernel_rfl⟩, rfl⟩
    | 4, hk, hf => cases hk; cases hf; exact ⟨⟨Tryd.underlying3, by kernel_rfl⟩, rfl⟩
    | 5, hk, hf => cases hk; cases hf; exact ⟨⟨Tryd.underlying3, by kernel_rfl⟩, rfl⟩
    | 6, hk, hf => cases hk; cases hf; exact ⟨⟨5, Tryd.underlying22, Tryd.underlying5, by kernel_rfl, by kernel_rfl⟩, rfl⟩
    | 7, hk, hf => cases hk; cases hf; exact ⟨⟨Tryd.underlying2, by kernel_rfl⟩, rfl⟩
    | 8, hk, hf => cases hk; cases hf; exact ⟨⟨Tryd.underlying3, by kernel_rfl⟩, rfl⟩
    | 9, hk, hf => cases hk; cases hf; exact ⟨⟨Tryd.underlying3, by kernel_rfl⟩, rfl⟩
    | i + 10, hk, hf => simp [stepKs] at hk⟩
  cells := by kernel_rfl
theorem rows_R {α : Type} (R : α → List Value → Prop) {ks : List Go.Rd.Kd} {w : World} {a : Option Addr} {len cap : Nat}
    (hK : ∀ cs : List Value, cs.length = ks.length → (∀ (j : Nat) k, ks[j]? = some k → ∃ v, cs[j]? = some v ∧ CellIs w k v) → ∃ x, R x cs) (h : IsRows ks w a len cap) :
    ∃ l : List α, l.length = len ∧ ReadsRow R ks.length w a len l ∧ len ≤ cap := by
  rcases h with ⟨rfl, rfl, rfl⟩ | ⟨ad, rfl, hl, hm, hc⟩
  · exact ⟨[], rfl, ⟨rfl, Nat.zero_le _, fun h => absurd h (Nat.lt_irrefl 0)⟩, Nat.le_refl _⟩
  · obtain ⟨l, hll, hp⟩ := list_of (P := fun i x => ∃ cs : List Value, cs.length = ks.length ∧ R x cs ∧ ∀ j u, cs[j]? = some u → w.cell? (ad.add (i * ks.length + j)) = some u) len (fun i hi => by
      obtain ⟨cs, hcl, hcs⟩ := list_of (P := fun j v => w.cell? (ad.add (i * ks.length + j)) = some v ∧ ∀ k, ks[j]? = some k → CellIs w k v) ks.length (fun j hj => by
        obtain ⟨v, h1, h2⟩ := hc i j ks[j] (by omega) (List.getElem?_eq_getElem hj)
        exact ⟨v, h1, fun k hk => by rw [List.getElem?_eq_getElem hj] at hk; cases hk; exact h2⟩)
      obtain ⟨x, hx⟩ := hK cs hcl (fun j k hk => by
        have hj : j < cs.length := by rw [hcl]; exact (List.getElem?_eq_some_iff.1 hk).1
        exact ⟨cs[j], List.getElem?_eq_getElem hj, (hcs j _ (List.getElem?_eq_getElem hj)).2 k hk⟩)
      exact ⟨x, cs, hcl, hx, fun j u hu => (hcs j u hu).1⟩)
    refine ⟨l, hll, ⟨hll, by simp [maxLen] at hm; omega, fun _ => ⟨ad, rfl, fun j p hj => ?_⟩⟩, hl⟩
    obtain ⟨cs, h1, h2, h3⟩ := hp j p hj
    exact ⟨cs, h1, h2, h3⟩
theorem steps_of {w : World} {a : Option Addr} {len cap : Nat} (h : IsRows stepKs w a len cap) : ∃ l : List Sx, l.length = len ∧ ReadsRow (StepK w) 10 w a len l ∧ len ≤ cap := by
  refine rows_R (ks := stepKs) (StepK w) (fun cs hcl hcs => ?_) h
  obtain ⟨v0, h0, n0, rfl, _⟩ := hcs 0 _ rfl
  obtain ⟨v1, h1, t1, rfl, _⟩ := hcs 1 _ rfl
  obtain ⟨v2, h2, t2, rfl, _⟩ := hcs 2 _ rfl
  obtain ⟨v3, h3, n3, rfl, _⟩ := hcs 3 _ rfl
  obtain ⟨v4, h4, n4, rfl, _⟩ := hcs 4 _ rfl
  obtain ⟨v5, h5, n5, rfl, _⟩ := hcs 5 _ rfl
  obtain ⟨v6, h6, A, len, cap, zs, rfl, hr⟩ := hcs 6 _ rfl
  obtain ⟨v7, h7, n7, rfl, _⟩ := hcs 7 _ rfl
  obtain ⟨v8, h8, n8, rfl, _⟩ := hcs 8 _ rfl
  obtain ⟨v9, h9, n9, rfl, _⟩ := hcs 9 _ rfl
  have hB := BytesIn.of_row hr
  match cs, hcl, h0, h1, h2, h3, h4, h5, h6, h7, h8, h9 with
  | [c0, c1, c2, c3, c4, c5, c6, c7, c8, c9], _, h0, h1, h2, h3, h4, h5, h6, h7, h8, h9 =>
    cases h0
    cases h1
    cases h2
    cases h3
    cases h4
    cases h5
    cases h6
    cases h7
    cases h8
    cases h9
    exact ⟨(⟨n0, t1, t2, n3, n4, n5, A, len, cap, n7, n8, n9⟩, zs.take len), rfl, hB⟩
theorem ro_main (w : World) (a1 : Option Addr) (n1 c1 : Nat) (z1 : List Int) (h1 : IsRow .u8 w a1 n1 c1 z1) (a2 : Option Addr) (n2 c2 : Nat) (z2 : List Int) (h2 : IsRow .u8 w a2 n2 c2 z2) (a3 : Option Addr) (n3 c3 : Nat) (h3 : IsRows stepKs w a3 n3 c3) (hL : laidMetH Tryd.prog Rows.fnUnionReadOnlyRow.laid w) :
    Calls Tryd.prog 7 #[.slice a1 n1 c1, .slice a2 n2 c2, .slice a3 n3 c3] w fun e w' => e = .returned (.bool true) ∧ Below w.heap.size w w' := by
  have hse : ∃ ad, Sents w.heap.size w ad := sents_of hL
  obtain ⟨l3, rfl, r3, e3⟩ := steps_of h3
  exact ro_law a1 n1 c1 _ a2 n2 c2 _ a3 c3 l3 w (BytesIn.of_row h1) (BytesIn.of_row h2) r3 e3 hse
end Go.Proofs.YtnkhfdnahnphdaaDoor
end
