/- Rows of structs whose fields are texts, numbers, flags and rows of bytes: what an argument of such a type holds in memory. -/
import Derived.Test.YtfanlhkpblemgaaDoorRd
import Derived.LaidLaws
import Derived.ChangeArms
import Derived.ChangeSame
import Derived.ChangeSlices
import Derived.Deep.Slices
import Derived.OpenShut
namespace Go.Rd
open Go.ChangeShapes Go.WideShapes Go.Deep

/-- The kinds of fields. -/
inductive Kd where
  | str | num (k : IntKind) | flag | bytes

def KdOf (P : Program) (t : TypeId) : Kd → Prop
  | .str => P.underlying t = some .string ∧ P.cellsOf t = 1
  | .num k => P.underlying t = some (.int k) ∧ P.cellsOf t = 1
  | .flag => P.underlying t = some .bool ∧ P.cellsOf t = 1
  | .bytes => ∃ e, P.underlying t = some (.slice e) ∧ P.underlying e = some (.int .u8) ∧ P.cellsOf e = 1 ∧ P.cellsOf t = 1

def CellIs (W : World) : Kd → Value → Prop
  | .str, v => ∃ s : ByteArray, v = .string s ∧ s.size ≤ maxLen
  | .num k, v => ∃ n, v = .int k n ∧ (Lit.int k n).wf = true
  | .flag, v => ∃ b, v = .bool b
  | .bytes, v => ∃ a len cap zs, v = .slice a len cap ∧ IsRow .u8 W a len cap zs

structure StructOf (P : Program) (te : TypeId) (ks : List Kd) : Prop where
  fs : ∃ fs : Array Field, P.underlying te = some (.struct fs) ∧ fs.size = ks.length ∧ ∀ (i : Nat) k f, ks[i]? = some k → fs[i]? = some f → KdOf P f.type k ∧ f.offset = i
  cells : P.cellsOf te = ks.length

theorem kd_cells {P : Program} {t : TypeId} : ∀ {k : Kd}, KdOf P t k → P.cellsOf t = 1
  | .str, h => h.2
  | .num _, h => h.2
  | .flag, h => h.2
  | .bytes, h => by obtain ⟨_, _, _, _, h⟩ := h; exact h

variable {H : Type} {enc : TypeId × Value → H} {P : Program} {w : World} {base : Nat} {held : Bool}

theorem cell_is {t : TypeId} {fuel : Nat} {cs : List Value} {x : DataW H × List MemPlace} : ∀ {k : Kd}, KdOf P t k → DataW.trod enc P w base (fun _ => true) held fuel t cs = some x → ∃ v, cs = [v] ∧ CellIs w k v
  | .str, hk, h => by
    obtain ⟨s, rfl, _, hs⟩ := DataW.trod_string hk.1 h
    exact ⟨_, rfl, s, rfl, hs⟩
  | .num k, hk, h => by
    obtain ⟨n, rfl, _, hn⟩ := DataW.trod_int hk.1 h
    exact ⟨_, rfl, n, rfl, hn⟩
  | .flag, hk, h => by
    obtain ⟨b, rfl, _⟩ := DataW.trod_bool hk.1 h
    exact ⟨_, rfl, b, rfl⟩
  | .bytes, hk, h => by
    obtain ⟨e, h1, h2, h3, _⟩ := hk
    rcases open_ints h1 h2 h3 h with ⟨rfl, _⟩ | ⟨a, len, cap, zs, rfl, _, hl, hm, hz, _, hcell, hw⟩
    · exact ⟨_, rfl, none, 0, 0, [], rfl, .inl ⟨rfl, rfl, rfl, rfl⟩⟩
    · exact ⟨_, rfl, some a, len, cap, zs, rfl, .inr ⟨a, rfl, hl, hm, by simpa using hz, hcell, hw⟩⟩

theorem struct_is {te : TypeId} {ks : List Kd} (hs : StructOf P te ks) {fuel : Nat} {cs : List Value} {x : DataW H × List MemPlace} (h : DataW.trod enc P w base (fun _ => true) held fuel te cs = some x) :
    cs.length = ks.length ∧ ∀ (j : Nat) k, ks[j]? = some k → ∃ v, cs[j]? = some v ∧ CellIs w k v := by
  obtain ⟨fs, hu, hsz, hf⟩ := hs.fs
  obtain ⟨xs, n, _, _, hl, hxl, hat⟩ := DataW.trod_struct hu h
  rw [hs.cells] at hl
  refine ⟨hl, fun j k hk => ?_⟩
  have hj : j < ks.length := (List.getElem?_eq_some_iff.1 hk).1
  have hfj : fs[j]? = some (fs[j]'(by omega)) := Array.getElem?_eq_getElem (by omega)
  obtain ⟨hkd, ho⟩ := hf j k _ hk hfj
  have h1 := hat j _ hfj
  rw [List.getElem?_eq_getElem (by omega), kd_cells hkd, ho] at h1
  obtain ⟨v, hv, hc⟩ := cell_is hkd h1
  refine ⟨v, ?_, hc⟩
  have := congrArg (·[0]?) hv
  simpa [List.getElem?_take, List.getElem?_drop] using this

/-- A row of structs in memory: its slice's parts, and what each field's cell holds. -/
def IsRows (ks : List Kd) (w : World) (a : Option Addr) (len cap : Nat) : Prop :=
  (a = none ∧ len = 0 ∧ cap = 0) ∨
  ∃ x, a = some x ∧ len ≤ cap ∧ cap ≤ maxLen ∧ ∀ (i j : Nat) k, i < cap → ks[j]? = some k → ∃ v, w.cell? (x.add (i * ks.length + j)) = some v ∧ CellIs w k v

theorem add_add (a : Addr) (m n : Nat) : (a.add m).add n = a.add (m + n) := by
  unfold Addr.add
  by_cases hm : m = 0
  · subst hm; simp
  · by_cases hn : n = 0
    · subst hn; simp [hm]
    · have : ¬ (m = 0 ∧ n = 0) := by omega
      have h2 : m + n ≠ 0 := by omega
      simp [hm, hn, Nat.add_assoc]

theorem rows_of_trod {t te : TypeId} {ks : List Kd} (ht : P.underlying t = some (.slice te)) (hs : StructOf P te ks) {fuel : Nat} {cs : List Value} {x : DataW H × List MemPlace} (h : DataW.trod enc P w base (fun _ => true) held fuel t cs = some x) :
    ∃ a len cap, cs = [.slice a len cap] ∧ IsRows ks w a len cap := by
  rcases open_slice ht h with ⟨rfl, _⟩ | ⟨a, len, cap, m, n, D, Pl, rfl, _, hl, hm, hmm, _, hx⟩
  · exact ⟨none, 0, 0, rfl, .inl ⟨rfl, rfl, rfl⟩⟩
  · refine ⟨some a, len, cap, rfl, .inr ⟨a, rfl, hl, hm, fun i j k hi hk => ?_⟩⟩
    obtain ⟨cs', h1, h2⟩ := hx i (by rw [hmm]; simpa using hi)
    rw [hs.cells] at h1
    obtain ⟨_, hlen, hcell⟩ := World.cells?_some h1
    obtain ⟨_, hf⟩ := struct_is hs h2
    obtain ⟨v, hv, hc⟩ := hf j k hk
    have hj : j < ks.length := (List.getElem?_eq_some_iff.1 hk).1
    refine ⟨v, ?_, hc⟩
    have := hcell j hj
    rw [hv] at this
    rw [← this]
    congr 1
    exact (add_add _ _ _).symm
end Go.Rd
