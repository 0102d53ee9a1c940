/- The laid errors: what a listed error's variable reads as. -/
import Derived.ChangeSame
import Derived.ChangeVars
import Derived.JoinedOf
import Derived.RowKit
import Derived.RowKitTokens
import Derived.LaidLaws
namespace Go.Rd
open Go.ChangeShapes Go.WideShapes Go.RowKit

def sentData {H : Type} (text : List UInt8) : DataW H := .iface "*errors.errorString" (.ptr (.agg [.lit (.string text)]))

/-- The types of the errors that errors.New makes. -/
structure SentTypes (P : Program) (ti tp te ts : TypeId) : Prop where
  hi : ∃ ms, P.underlying ti = some (.interface ms)
  row : ∀ u, P.typeName? 3 u = some "*errors.errorString" → u = tp
  hp : P.underlying tp = some (.pointer te)
  he : ∃ f : Field, P.underlying te = some (.struct #[f]) ∧ f.type = ts ∧ f.offset = 0
  hs : P.underlying ts = some .string
  hc : P.cellsOf te = 1
  hcs : P.cellsOf ts = 1

theorem sent_in {P : Program} {W : World} {ti tp te ts : TypeId} (T : SentTypes P ti tp te ts) {n : String} {text : List UInt8} {g : Nat} (hg : P.globalNamed n = some g) (hty : (P.globals[g]?).map (·.type) = some ti) :
    ∀ (laid : List (String × DataW Unit)) (ps : List MemPlace), DataW.LaidVars P W laid ps →
      (∀ b off, MemPlace.cell b off ∈ ps → (∃ c t, W.heap[b]? = some (.cells c t (0, 0))) ∧ ∀ u v, W.cell? ⟨b, off, none⟩ = some (.iface u v) → Value.okWide P W .any 0 u v) →
      (n, sentData text) ∈ laid →
      ∃ (a : Addr) (s : ByteArray), W.cell? ⟨g, 0, none⟩ = some (.iface tp (.pointer (some a))) ∧ g < W.heap.size ∧ W.cell? a = some (.string s) ∧ s.data.toList = text ∧ (∃ c t, W.heap[a.block]? = some (.cells c t (0, 0)))
  | [], _, _, _, hm => by simp at hm
  | (n', d) :: r, ps, h, hrows, hm => by
    obtain ⟨g', t', cs, fuel, p, q, hg', ht', hv, hd, hr, rfl⟩ := h
    rcases List.mem_cons.1 hm with e | hm
    · simp only [Prod.mk.injEq] at e
      obtain ⟨rfl, rfl⟩ := e
      obtain rfl := Option.some.inj (hg.symm.trans hg')
      obtain rfl := Option.some.inj (hty.symm.trans ht')
      obtain ⟨l⟩ := cs
      obtain ⟨ms, hi⟩ := T.hi
      obtain ⟨f, he, hft, hfo⟩ := T.he
      have ok : ∀ u v, l = [.iface u v] → Value.okWide P W .any 0 u v := fun u v e => by
        subst e
        exact (hrows g 0 (by simp [MemPlace.row])).2 u v (by simpa using World.var?_cell hg hv 0)
      obtain ⟨a, s, rfl, hc, hs, hz, rfl⟩ := errorString_of_trod hi T.row T.hp he hft hfo T.hs T.hc T.hcs hd ok
      have hcell : W.cell? ⟨g, 0, none⟩ = some (.iface tp (.pointer (some a))) := by simpa using World.var?_cell hg hv 0
      have hlt : g < W.heap.size := by
        obtain ⟨c, t, hb⟩ := (hrows g 0 (by simp [MemPlace.row])).1
        exact (Array.getElem?_eq_some_iff.1 hb).1
      exact ⟨a, s, hcell, hlt, hc, hs, (hrows a.block a.off (by simp [MemPlace.row])).1⟩
    · exact sent_in T hg hty r q hr (fun b off hb => hrows b off (by simp [hb])) hm

theorem sent_of_laid {P : Program} {W : World} {ti tp te ts : TypeId} (T : SentTypes P ti tp te ts) {laid : List (String × DataW Unit)} (h : laidMet P laid W) (n : String) (text : List UInt8) (g : Nat) (hg : P.globalNamed n = some g) (hty : (P.globals[g]?).map (·.type) = some ti) (hm : (n, sentData text) ∈ laid) :
    ∃ (a : Addr) (s : ByteArray), W.cell? ⟨g, 0, none⟩ = some (.iface tp (.pointer (some a))) ∧ g < W.heap.size ∧ W.cell? a = some (.string s) ∧ s.data.toList = text ∧ (∃ c t, W.heap[a.block]? = some (.cells c t (0, 0))) := by
  obtain ⟨ps, hv, _, hrows⟩ := h
  exact sent_in T hg hty laid ps hv hrows hm
end Go.Rd
