/- Words over package-level variables that a row lists: what a table of pairs (a number, a text) holds in memory. -/
import Derived.LaidLaws
import Derived.ChangeArms
import Derived.ChangeSame
import Derived.OpenShut
namespace Go.Rd
open Go.ChangeShapes

/-- The cells of a table of pairs. -/
def pairCells : List (Int × List UInt8) → List Value
  | [] => []
  | (i, s) :: r => .int .u8 i :: .string ⟨s.toArray⟩ :: pairCells r
def pairData {H : Type} (l : List (Int × List UInt8)) : DataW H := .agg (l.map fun x => .agg [.lit (.int .u8 x.1), .lit (.string x.2)])

theorem pairCells_at : ∀ (l : List (Int × List UInt8)) (k : Nat) (x : Int × List UInt8), l[k]? = some x → (pairCells l)[k * 2]? = some (.int .u8 x.1) ∧ (pairCells l)[k * 2 + 1]? = some (.string ⟨x.2.toArray⟩)
  | [], k, x, h => by simp at h
  | (i, s) :: r, 0, x, h => by simp at h; subst h; exact ⟨rfl, rfl⟩
  | (i, s) :: r, k + 1, x, h => by
    have := pairCells_at r k x (by simpa using h)
    rw [show (k + 1) * 2 = k * 2 + 2 by omega]
    exact this
theorem pairCells_len : ∀ l : List (Int × List UInt8), (pairCells l).length = l.length * 2
  | [] => rfl
  | (i, s) :: r => by simp [pairCells, pairCells_len r]; omega

/-- The fields of a pair's struct, as the table of types has them. -/
structure PairStruct (P : Program) (t e : TypeId) (n : Nat) : Prop where
  arr : P.underlying t = some (.array n e)
  cellsE : P.cellsOf e = 2
  cellsT : P.cellsOf t = n * 2
  fields : ∃ f0 f1, P.underlying e = some (.struct #[f0, f1]) ∧ P.underlying f0.type = some (.int .u8) ∧ P.underlying f1.type = some .string ∧ f0.offset = 0 ∧ f1.offset = 1 ∧ P.cellsOf f0.type = 1 ∧ P.cellsOf f1.type = 1

theorem cells_of_pairs {H : Type} {enc : TypeId × Value → H} {P : Program} {w : World} {base : Nat} {sp : Nat → Bool} {held : Bool} {fuel : Nat} {t e : TypeId} {n : Nat} {cs : List Value} {l : List (Int × List UInt8)} {p : List MemPlace}
    (hs : PairStruct P t e n) (h : DataW.trod enc P w base sp held fuel t cs = some (pairData l, p)) : cs = pairCells l := by
  obtain ⟨xs, m, _, hx, hlen, hxl, hat⟩ := DataW.trod_array hs.arr h
  simp only [Prod.mk.injEq, pairData, DataW.agg.injEq] at hx
  obtain ⟨hx, _⟩ := hx
  have hl : l.length = n := by have := congrArg List.length hx; simp at this; omega
  obtain ⟨f0, f1, hu, hi, hst, ho0, ho1, hc0, hc1⟩ := hs.fields
  apply List.ext_getElem?
  intro i
  by_cases hi' : i < n * 2
  · obtain ⟨k, hk⟩ : ∃ k, i / 2 = k := ⟨_, rfl⟩
    have hkn : k < n := by omega
    have h1 := hat k hkn
    have hlk : l[k]? = some l[k] := List.getElem?_eq_getElem (by omega)
    have hxk : xs[k]? = some xs[k] := List.getElem?_eq_getElem (by omega)
    rw [hxk] at h1
    obtain ⟨y0, y1, n', hy, hcl, t0, t1⟩ := trod_struct2 hu h1
    obtain ⟨z, hz, rfl, _⟩ := DataW.trod_int hi t0
    obtain ⟨s, hs', rfl, _⟩ := DataW.trod_string hst t1
    have hd : (xs[k]).1 = .agg [.lit (.int .u8 l[k].1), .lit (.string l[k].2)] := by
      have := congrArg (·[k]?) hx
      simp only [List.getElem?_map, hxk, hlk, Option.map_some, Option.some.injEq] at this
      exact this.symm
    rw [hy] at hd
    simp only [DataW.agg.injEq, List.cons.injEq, DataW.lit.injEq, Lit.int.injEq, Lit.string.injEq, true_and, and_true] at hd
    obtain ⟨rfl, hsl⟩ := hd
    obtain ⟨p0, p1⟩ := pairCells_at l k l[k] hlk
    have c0 : cs[k * 2]? = some (.int .u8 l[k].1) := by
      have := congrArg (·[0]?) hz
      rw [ho0, hc0, hs.cellsE] at this
      simpa [List.getElem?_take, List.getElem?_drop] using this
    have c1 : cs[k * 2 + 1]? = some (.string s) := by
      have := congrArg (·[0]?) hs'
      rw [ho1, hc1, hs.cellsE] at this
      simpa [List.getElem?_take, List.getElem?_drop] using this
    rcases Nat.mod_two_eq_zero_or_one i with hm | hm
    · rw [show i = k * 2 by omega, c0, p0]
    · rw [show i = k * 2 + 1 by omega, c1, p1, ← hsl]
  · rw [List.getElem?_eq_none (by rw [hlen, hs.cellsT]; omega), List.getElem?_eq_none (by rw [pairCells_len, hl]; omega)]

/-- The table's block, where it stands first on the row's list. -/
theorem pairs_of_head {P : Program} {W : World} {name : String} {l : List (Int × List UInt8)} {rest : List (String × DataW Unit)} {g : Nat} {t e : TypeId} {n : Nat}
    (hg : P.globalNamed name = some g) (hty : (P.globals[g]?).map (·.type) = some t) (hs : PairStruct P t e n)
    (h : laidMet P ((name, pairData l) :: rest) W) : ∃ ty fr, W.heap[g]? = some (.cells (pairCells l).toArray ty fr) := by
  obtain ⟨ps, ⟨g', t', cs, fuel, p, q, hg', ht', hvar, hd, _, _⟩, _⟩ := h
  obtain rfl := Option.some.inj (hg.symm.trans hg')
  obtain rfl := Option.some.inj (hty.symm.trans ht')
  have hc := cells_of_pairs hs hd
  unfold World.var? at hvar
  rw [hg] at hvar
  simp only [Option.bind_some] at hvar
  split at hvar
  · rename_i c ty fr heq
    cases hvar
    exact ⟨ty, fr, by rw [heq, ← hc]⟩
  · cases hvar

end Go.Rd
