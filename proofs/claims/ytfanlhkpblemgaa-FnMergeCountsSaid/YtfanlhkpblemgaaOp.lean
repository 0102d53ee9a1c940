/- Rows of structs that came in, as the print's rows. -/
import Derived.Test.YtfanlhkpblemgaaSt
import Derived.Test.YtfanlhkpblemgaaKx
namespace Go.Proofs.Ytfanlhkpblemgaa
open Go.RowKit Go.Rd Go.Proofs.YtfanlhkpblemgaaW.PrintWords Go.Proofs.YtfanlhkpblemgaaW.PrintLast Go.Proofs.YtfanlhkpblemgaaW.PrintMore

theorem list_of {α : Type} {P : Nat → α → Prop} : ∀ n, (∀ i, i < n → ∃ x, P i x) → ∃ l : List α, l.length = n ∧ ∀ i x, l[i]? = some x → P i x
  | 0, _ => ⟨[], rfl, fun i x h => by simp at h⟩
  | n + 1, h => by
    obtain ⟨l, hl, hp⟩ := list_of n (fun i hi => h i (by omega))
    obtain ⟨x, hx⟩ := h n (by omega)
    refine ⟨l ++ [x], by simp [hl], fun i y hy => ?_⟩
    rcases Nat.lt_or_ge i l.length with hi | hi
    · rw [List.getElem?_append_left hi] at hy
      exact hp i y hy
    · have hi' : i = n := by
        have := (List.getElem?_eq_some_iff.1 hy).1
        simp at this; omega
      subst hi'
      rw [← hl, List.getElem?_concat_length] at hy
      cases hy
      exact hx

theorem C_of_row {k : IntKind} {w : World} {a : Option Addr} {len cap : Nat} {zs : List Int} (h : IsRow k w a len cap zs) : Kd.C (Kd.int k) w a len (zs.take len) ∧ (zs.take len).length = len ∧ len ≤ cap ∧ ∀ n ∈ zs.take len, (Lit.int k n).wf = true := by
  rcases h with ⟨rfl, rfl, rfl, rfl⟩ | ⟨x, rfl, h1, h2, h3, h4, h5⟩
  · exact ⟨⟨rfl, by omega, fun h => absurd h (Nat.lt_irrefl 0)⟩, rfl, Nat.le_refl _, fun n hn => by simp at hn⟩
  · refine ⟨⟨by simp; omega, by simp [maxLen] at h2; omega, fun _ => ⟨x, rfl, fun j p hp => ?_⟩⟩, by simp; omega, h1, fun n hn => h5 n (List.mem_of_mem_take hn)⟩
    have hj : j < len := by
      have := (List.getElem?_eq_some_iff.1 hp).1
      simp at this; omega
    rw [List.getElem?_take_of_lt hj] at hp
    refine ⟨[.int k p], rfl, rfl, fun i u hu => ?_⟩
    have hi : i = 0 := by
      have := (List.getElem?_eq_some_iff.1 hu).1
      simp at this; omega
    subst hi
    cases hu
    have := h4 j (by omega)
    have e : x.add (j * (Kd.int k).sz + 0) = x.add j := by
      have : (Kd.int k).sz = 1 := rfl
      rw [this, Nat.mul_one, Nat.add_zero]
    rw [e, this]
    simp [List.getD, hp]

theorem rows_C {α : Type} (d : Kd α) {ks : List Go.Rd.Kd} (hs : d.sz = ks.length) (Q : α → Prop) {w : World} {a : Option Addr} {len cap : Nat}
    (hK : ∀ cs : List Value, cs.length = ks.length → (∀ (j : Nat) k, ks[j]? = some k → ∃ v, cs[j]? = some v ∧ CellIs w k v) → ∃ x, d.K w x cs ∧ Q x) (h : IsRows ks w a len cap) :
    ∃ l : List α, l.length = len ∧ Kd.C d w a len l ∧ len ≤ cap ∧ ∀ x ∈ l, Q x := by
  rcases h with ⟨rfl, rfl, rfl⟩ | ⟨ad, rfl, hl, hm, hc⟩
  · exact ⟨[], rfl, Kd.C_nil d w, Nat.le_refl _, fun x hx => by simp at hx⟩
  · obtain ⟨l, hll, hp⟩ := list_of (P := fun i x => (∃ cs : List Value, cs.length = ks.length ∧ d.K w x cs ∧ ∀ j u, cs[j]? = some u → w.cell? (ad.add (i * ks.length + j)) = some u) ∧ Q x) len (fun i hi => by
      obtain ⟨cs, hcl, hcs⟩ := list_of (P := fun j v => w.cell? (ad.add (i * ks.length + j)) = some v ∧ ∀ k, ks[j]? = some k → CellIs w k v) ks.length (fun j hj => by
        obtain ⟨v, h1, h2⟩ := hc i j ks[j] (by omega) (List.getElem?_eq_getElem hj)
        exact ⟨v, h1, fun k hk => by rw [List.getElem?_eq_getElem hj] at hk; cases hk; exact h2⟩)
      obtain ⟨x, hx, hq⟩ := hK cs hcl (fun j k hk => by
        have hj : j < cs.length := by rw [hcl]; exact (List.getElem?_eq_some_iff.1 hk).1
        exact ⟨cs[j], List.getElem?_eq_getElem hj, (hcs j _ (List.getElem?_eq_getElem hj)).2 k hk⟩)
      exact ⟨x, ⟨cs, hcl, hx, fun j u hu => (hcs j u hu).1⟩, hq⟩)
    refine ⟨l, hll, ⟨hll, by simp [maxLen] at hm; omega, fun _ => ⟨ad, rfl, fun j p hj => ?_⟩⟩, hl, fun x hx => ?_⟩
    · obtain ⟨⟨cs, h1, h2, h3⟩, _⟩ := hp j p hj
      exact ⟨cs, h1.trans hs.symm, h2, fun i u hu => by rw [hs]; exact h3 i u hu⟩
    · obtain ⟨i, hi, rfl⟩ := List.getElem_of_mem hx
      exact (hp i _ (List.getElem?_eq_getElem hi)).2
end Go.Proofs.Ytfanlhkpblemgaa
