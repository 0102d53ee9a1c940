/- FnMergeCounts: the law's walk on arguments as they come in. -/
import Derived.Test.YtfanlhkpblemgaaMiWalk
import Derived.Test.YtfanlhkpblemgaaOp
namespace Go.Proofs.Ytfanlhkpblemgaa
open Go.ChangeShapes Go.WideShapes Go.ChangeAt Go.RowKit Go.Rd
open Go.Proofs.YtfanlhkpblemgaaW.PrintWords Go.Proofs.YtfanlhkpblemgaaW.PrintLast Go.Proofs.YtfanlhkpblemgaaW.PrintMore
open PFnMergeCounts
set_option linter.unusedVariables false

theorem rows_R {α : Type} (R : α → List Value → Prop) {ks : List Go.Rd.Kd} {w : World} {a : Option Addr} {len cap : Nat}
    (hK : ∀ cs : List Value, cs.length = ks.length → (∀ (j : Nat) k, ks[j]? = some k → ∃ v, cs[j]? = some v ∧ CellIs w k v) → ∃ x, R x cs) (h : IsRows ks w a len cap) :
    ∃ l : List α, l.length = len ∧ ReadsRow R ks.length w a len l ∧ len ≤ cap := by
  rcases h with ⟨rfl, rfl, rfl⟩ | ⟨ad, rfl, hl, hm, hc⟩
  · exact ⟨[], rfl, ⟨rfl, Nat.zero_le _, fun h => absurd h (Nat.lt_irrefl 0)⟩, Nat.le_refl _⟩
  · obtain ⟨l, hll, hp⟩ := list_of (P := fun i x => ∃ cs : List Value, cs.length = ks.length ∧ R x cs ∧ ∀ j u, cs[j]? = some u → w.cell? (ad.add (i * ks.length + j)) = some u) len (fun i hi => by
      obtain ⟨cs, hcl, hcs⟩ := list_of (P := fun j v => w.cell? (ad.add (i * ks.length + j)) = some v ∧ ∀ k, ks[j]? = some k → CellIs w k v) ks.length (fun j hj => by
        obtain ⟨v, h1, h2⟩ := hc i j ks[j] (by omega) (List.getElem?_eq_getElem hj)
        exact ⟨v, h1, fun k hk => by rw [List.getElem?_eq_getElem hj] at hk; cases hk; exact h2⟩)
      obtain ⟨x, hx⟩ := hK cs hcl (fun j k hk => by
        have hj : j < cs.length := by rw [hcl]; exact (List.getElem?_eq_some_iff.1 hk).1
        exact ⟨cs[j], List.getElem?_eq_getElem hj, (hcs j _ (List.getElem?_eq_getElem hj)).2 k hk⟩)
      exact ⟨x, cs, hcl, hx, fun j u hu => (hcs j u hu).1⟩)
    refine ⟨l, hll, ⟨hll, by simp [maxLen] at hm; omega, fun _ => ⟨ad, rfl, fun j p hj => ?_⟩⟩, hl⟩
    obtain ⟨cs, h1, h2, h3⟩ := hp j p hj
    exact ⟨cs, h1, h2, h3⟩
def entKs : List Go.Rd.Kd := [.str, .num .i64, .flag, .bytes, .num .i64]
theorem ent_struct : StructOf Try.prog 35 entKs where
  fs := ⟨_, Try.underlying35, rfl, fun i k f hk hf => by
    match i, hk, hf with
    | 0, hk, hf => cases hk; cases hf; exact ⟨⟨Try.underlying9, by kernel_rfl⟩, rfl⟩
    | 1, hk, hf => cases hk; cases hf; exact ⟨⟨Try.underlying3, by kernel_rfl⟩, rfl⟩
    | 2, hk, hf => cases hk; cases hf; exact ⟨⟨Try.underlying4, by kernel_rfl⟩, rfl⟩
    | 3, hk, hf => cases hk; cases hf; exact ⟨⟨5, Try.underlying33, Try.underlying5, by kernel_rfl, by kernel_rfl⟩, rfl⟩
    | 4, hk, hf => cases hk; cases hf; exact ⟨⟨Try.underlying2, by kernel_rfl⟩, rfl⟩
    | i + 5, hk, hf => simp [entKs] at hk⟩
  cells := by kernel_rfl
theorem ents_of {w : World} {a : Option Addr} {len cap : Nat} (h : IsRows entKs w a len cap) : ∃ l : List S35, l.length = len ∧ ReadsRow (EntK w) 5 w a len l ∧ len ≤ cap := by
  refine rows_R (ks := entKs) (EntK w) (fun cs hcl hcs => ?_) h
  obtain ⟨v0, h0, s, rfl, hs⟩ := hcs 0 _ rfl
  obtain ⟨v1, h1, n1, rfl, hn1⟩ := hcs 1 _ rfl
  obtain ⟨v2, h2, b2, rfl⟩ := hcs 2 _ rfl
  obtain ⟨v3, h3, A, len, cap, zs, rfl, hr⟩ := hcs 3 _ rfl
  obtain ⟨v4, h4, n4, rfl, hn4⟩ := hcs 4 _ rfl
  have hB := BytesIn.of_row hr
  match cs, hcl, h0, h1, h2, h3, h4 with
  | [c0, c1, c2, c3, c4], _, h0, h1, h2, h3, h4 =>
    cases h0
    cases h1
    cases h2
    cases h3
    cases h4
    have hl := hB.len
    refine ⟨⟨s, n1, b2, zs.take len, n4⟩, A, cap, ?_, ?_⟩
    · show _ = [Value.string s, .int .i64 n1, .bool b2, .slice A (zs.take len).length cap, .int .i64 n4]
      rw [hl]
    · show BytesIn w A (zs.take len).length cap (zs.take len)
      rw [hl]
      exact hB
theorem main (w : World) (a1 : Option Addr) (n1 c1 : Nat) (h1 : IsRows entKs w a1 n1 c1) (a2 : Option Addr) (n2 c2 : Nat) (h2 : IsRows entKs w a2 n2 c2) :
    Calls Try.prog 3 #[.slice a1 n1 c1, .slice a2 n2 c2] w fun e w' => e = .returned (.bool true) ∧ Below w.heap.size w w' := by
  obtain ⟨l1, rfl, r1, e1⟩ := ents_of h1
  obtain ⟨l2, rfl, r2, e2⟩ := ents_of h2
  exact law_walk a1 c1 l1 a2 c2 l2 w r1 e1 r2 e2
end Go.Proofs.Ytfanlhkpblemgaa
