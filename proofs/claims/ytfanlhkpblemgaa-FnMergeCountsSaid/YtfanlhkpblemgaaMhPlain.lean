/- FnMergeCounts: what the printed functions of the law come to. -/
import Derived.Test.YtfanlhkpblemgaaMfWalk
namespace Go.Proofs.Ytfanlhkpblemgaa
open Go.RowKit Go.Rd
open Go.Proofs.YtfanlhkpblemgaaW.PrintWords Go.Proofs.YtfanlhkpblemgaaW.PrintLast Go.Proofs.YtfanlhkpblemgaaW.PrintMore
open PFnMergeCounts
set_option linter.unusedVariables false

theorem wrap_up (n : Nat) (h : n ≤ 4294967296) : wrap64 ((n : Int) + 1) = ((n + 1 : Nat) : Int) := by unfold wrap64; omega
theorem wrap_down (n : Nat) (h : n ≤ 4294967296) : wrap64 ((n : Int) - 1) = (n : Int) - 1 := by unfold wrap64; omega

theorem base_of_cut (s : ByteArray) (k : Nat) (h : Sp.IsCut s.data.toList k) : Sp.base s = s.extract k s.size := by
  unfold Sp.base
  rw [Sp.cut_unique (Sp.cut_is s.data.toList) h]
theorem base_from (s : ByteArray) (hs : s.size ≤ 4294967296) : ∀ i : Nat, i ≤ s.size → 47 ∉ s.data.toList.drop i → Ev (fun k => spec_MemBase.l0 k s ((i : Int) - 1)) (Sp.base s)
  | 0, _, hd => by
    refine Ev.step (f := fun _ => some (Sp.base s)) (fun k => ?_) (Ev.now _)
    simp only [spec_MemBase.l0]
    rw [if_neg (by omega), base_of_cut s 0 ⟨Nat.zero_le _, hd, .inl rfl⟩]
    congr 1
    simp
  | i + 1, hi, hd => by
    have hb : bt s (((i + 1 : Nat) : Int) - 1) = (s[i].toNat : Int) := by
      have e : ((((i + 1 : Nat) : Int) - 1)).toNat = i := by omega
      unfold bt
      rw [dif_pos (by omega)]
      simp only [e]
    have hg : s.data.toList[i]'(by simpa using (by omega : i < s.size)) = s[i] := Sp.byte_at s i (by omega)
    by_cases hc : s[i] = 47
    · refine Ev.step (f := fun _ => some (Sp.base s)) (fun k => ?_) (Ev.now _)
      simp only [spec_MemBase.l0]
      have e1 : wrap64 (((i + 1 : Nat) : Int) - 1 + 1) = ((i + 1 : Nat) : Int) := by unfold wrap64; omega
      rw [if_pos (by omega), if_pos (by omega), if_pos (by omega), hb, if_pos (by rw [hc]; rfl), e1, if_pos (by omega), if_pos (by omega), Int.toNat_natCast,
        base_of_cut s (i + 1) ⟨by simpa using hi, hd, .inr (by rw [Nat.add_sub_cancel, List.getElem?_eq_getElem (by simpa using (by omega : i < s.size)), hg, hc])⟩]
    · refine Ev.step (fun k => ?_) (base_from s hs i (by omega) (Sp.drop_more (by simpa using (by omega : i < s.size)) hd (by rw [hg]; exact hc)))
      simp only [spec_MemBase.l0]
      rw [if_pos (by omega), if_pos (by omega), if_pos (by omega), hb, if_neg (fun h => hc (by
        have : s[i].toNat = 47 := by omega
        exact UInt8.toNat_inj.1 (by rw [this]; rfl)))]
      congr 1
      unfold wrap64; omega
theorem base_ev (s : ByteArray) (hs : s.size ≤ 4294967296) : Ev (fun k => spec_MemBase.f k s) (Sp.base s) := by
  refine Ev.congr (fun k => ?_) (base_from s hs s.size (Nat.le_refl _) (by rw [List.drop_of_length_le (by simp)]; exact List.not_mem_nil))
  unfold spec_MemBase.f
  rw [wrap_down _ hs]

def hasN (l : List ByteArray) (a : ByteArray) : Bool := l.any (fun x => x.data.toList == a.data.toList)
theorem has_from (l : List ByteArray) (a : ByteArray) (hl : l.length ≤ 2147483647) : ∀ d i : Nat, i + d = l.length → Ev (fun k => laws_hasName.l0 k a l (l.length : Int) (i : Int)) (hasN (l.drop i) a)
  | 0, i, h => by
    refine Ev.step (f := fun _ => some (hasN (l.drop i) a)) (fun k => ?_) (Ev.now _)
    simp only [laws_hasName.l0]
    rw [if_neg (by omega), List.drop_of_length_le (by omega)]
    rfl
  | d + 1, i, h => by
    have hi : i < l.length := by omega
    have hr : rdOf ByteArray.empty l (i : Int) = l[i] := getD_at l ByteArray.empty i hi
    have e : hasN (l.drop i) a = ((l[i].data.toList == a.data.toList) || hasN (l.drop (i + 1)) a) := by
      rw [List.drop_eq_getElem_cons hi]
      rfl
    by_cases hc : l[i].data.toList = a.data.toList
    · refine Ev.step (f := fun _ => some (hasN (l.drop i) a)) (fun k => ?_) (Ev.now _)
      simp only [laws_hasName.l0]
      rw [if_pos (by omega), if_pos (by omega), if_pos (by omega), hr, Lib.toList_data, Lib.toList_data, if_pos hc, e, beq_iff_eq.2 hc]
      rfl
    · rw [e, show (l[i].data.toList == a.data.toList) = false from by simpa using hc, Bool.false_or]
      refine Ev.step (fun k => ?_) (has_from l a hl d (i + 1) (by omega))
      simp only [laws_hasName.l0]
      rw [if_pos (by omega), if_pos (by omega), if_pos (by omega), hr, Lib.toList_data, Lib.toList_data, if_neg hc, wrap_up _ (by omega)]
theorem has_ev (l : List ByteArray) (a : ByteArray) (hl : l.length ≤ 2147483647) : Ev (fun k => laws_hasName.f k l a) (hasN l a) := has_from l a hl l.length 0 (by omega)

def names : List ByteArray → List S35 → List ByteArray
  | acc, [] => acc
  | acc, x :: r => names (if hasN acc (Sp.base x.f0) then acc else acc ++ [Sp.base x.f0]) r
theorem rd35 (l : List S35) (i : Nat) (h : i < l.length) : rd_T35 l (i : Int) = l[i] := getD_at l z35 i h
theorem names_from (l : List S35) (hl : l.length ≤ 1000) (hs : ∀ x ∈ l, x.f0.size ≤ 4294967296) : ∀ (d i : Nat) (acc : List ByteArray), i + d = l.length → acc.length ≤ i → Ev (fun k => laws_lastNames.l0 k acc l (l.length : Int) (i : Int)) (names acc (l.drop i))
  | 0, i, acc, h, ha => by
    refine Ev.step (f := fun _ => some (names acc (l.drop i))) (fun k => ?_) (Ev.now _)
    simp only [laws_lastNames.l0]
    rw [if_neg (by omega), List.drop_of_length_le (by omega)]
    rfl
  | d + 1, i, acc, h, ha => by
    have hi : i < l.length := by omega
    have hb := base_ev l[i].f0 (hs _ (List.getElem_mem _))
    have hh := has_ev acc (Sp.base l[i].f0) (by omega)
    rw [List.drop_eq_getElem_cons hi]
    have ih := names_from l hl hs d (i + 1) (if hasN acc (Sp.base l[i].f0) then acc else acc ++ [Sp.base l[i].f0]) (by omega) (by
      split
      · omega
      · rw [List.length_append, List.length_singleton]; omega)
    have h2 : Ev (fun k => (fun k t136 => if t136 = true then laws_lastNames.l0 k acc l (l.length : Int) (wrap64 ((i : Int) + 1)) else (if acc.length < 8796093022208 then laws_lastNames.l0 k (acc ++ [Sp.base l[i].f0]) l (l.length : Int) (wrap64 ((i : Int) + 1)) else none)) k (hasN acc (Sp.base l[i].f0))) (names acc (l[i] :: l.drop (i + 1))) := by
      refine Ev.congr (fun k => ?_) ih
      cases hq : hasN acc (Sp.base l[i].f0) with
      | true =>
        simp only [if_true]
        rw [wrap_up _ (by omega)]
      | false =>
        simp only [Bool.false_eq_true, if_false]
        rw [if_pos (by omega), wrap_up _ (by omega)]
    have h3 := Ev.bind (f := fun k t135 => (laws_hasName.f k acc t135).bind fun t136 => if t136 = true then laws_lastNames.l0 k acc l (l.length : Int) (wrap64 ((i : Int) + 1)) else (if acc.length < 8796093022208 then laws_lastNames.l0 k (acc ++ [t135]) l (l.length : Int) (wrap64 ((i : Int) + 1)) else none)) hb (Ev.bind hh h2)
    refine Ev.step (fun k => ?_) h3
    simp only [laws_lastNames.l0]
    rw [if_pos (by omega), if_pos (by omega), if_pos (by omega), rd35 l i hi]
theorem names_ev (l : List S35) (hl : l.length ≤ 1000) (hs : ∀ x ∈ l, x.f0.size ≤ 4294967296) : Ev (fun k => laws_lastNames.f k l) (names [] l) := names_from l hl hs l.length 0 [] (by omega) (Nat.le_refl _)

theorem hasN_iff (l : List ByteArray) (a : ByteArray) : hasN l a = true ↔ a.data.toList ∈ l.map (·.data.toList) := by
  unfold hasN
  rw [List.any_eq_true, List.mem_map]
  constructor
  · rintro ⟨x, h1, h2⟩
    exact ⟨x, h1, by simpa using h2⟩
  · rintro ⟨x, h1, h2⟩
    exact ⟨x, h1, by simpa using h2⟩
theorem names_mem : ∀ (l : List S35) (acc : List ByteArray), (acc.map (·.data.toList)).Nodup → ((names acc l).map (·.data.toList)).Nodup ∧ ∀ s, s ∈ (names acc l).map (·.data.toList) ↔ s ∈ acc.map (·.data.toList) ∨ s ∈ l.map key
  | [], acc, h => ⟨h, fun s => by simp [names]⟩
  | x :: r, acc, h => by
    unfold names
    by_cases hq : hasN acc (Sp.base x.f0) = true
    · rw [if_pos hq]
      obtain ⟨h1, h2⟩ := names_mem r acc h
      refine ⟨h1, fun s => ?_⟩
      rw [h2 s, List.map_cons, List.mem_cons]
      have := (hasN_iff _ _).1 hq
      constructor
      · rintro (h | h)
        · exact .inl h
        · exact .inr (.inr h)
      · rintro (h | rfl | h)
        · exact .inl h
        · exact .inl this
        · exact .inr h
    · rw [if_neg hq]
      have hn : (Sp.base x.f0).data.toList ∉ acc.map (·.data.toList) := fun h => hq ((hasN_iff _ _).2 h)
      obtain ⟨h1, h2⟩ := names_mem r (acc ++ [Sp.base x.f0]) (by
        rw [List.map_append, List.nodup_append]
        refine ⟨h, by simp, ?_⟩
        intro a ha b hb
        simp only [List.map_cons, List.map_nil, List.mem_singleton] at hb
        subst hb
        intro e
        subst e
        exact hn ha)
      refine ⟨h1, fun s => ?_⟩
      rw [h2 s]
      simp only [List.map_append, List.mem_append, List.map_cons, List.map_nil, List.mem_cons, List.not_mem_nil, or_false]
      exact or_assoc
theorem same_len {α : Type} [DecidableEq α] {a b : List α} (ha : a.Nodup) (hb : b.Nodup) (h : ∀ s, s ∈ a ↔ s ∈ b) : a.length = b.length :=
  Nat.le_antisymm (length_le_of_sub ha (fun x hx => (h x).1 hx)) (length_le_of_sub hb (fun x hx => (h x).2 hx))
theorem merged_count {l1 l2 r : List S35} (h : Merged l1 l2 r) : r.length = (names [] (l1 ++ l2)).length := by
  obtain ⟨h1, h2, h3⟩ := h
  obtain ⟨g1, g2⟩ := names_mem (l1 ++ l2) [] List.nodup_nil
  have := same_len h3 g1 (fun s => by
    rw [g2 s]
    simp only [List.map_nil, List.not_mem_nil, false_or]
    constructor
    · intro hs
      obtain ⟨x, hx, rfl⟩ := List.mem_map.1 hs
      have := (pick_key (h1 x hx)).2
      exact List.mem_map.2 ⟨x, List.mem_append.2 this, rfl⟩
    · intro hs
      obtain ⟨x, hx, rfl⟩ := List.mem_map.1 hs
      cases hp : pick l1 l2 (key x) with
      | none => exact absurd rfl ((pick_none_iff l1 l2 (key x)).1 hp x (List.mem_append.1 hx))
      | some y =>
        have hy := pick_key hp
        exact List.mem_map.2 ⟨y, h2 _ _ hp, hy.1⟩)
  simpa using this
theorem merged_in {l1 l2 r a : List S35} (h : Merged l1 l2 r) (ha : Merged l1 [] a) : ∀ x ∈ a, x ∈ r := fun x hx => h.2.1 _ _ (pick_layer (ha.1 x hx))

/-! zzFits15 -/
theorem fits_from (l : List S35) (hl : l.length ≤ 2147483647) : ∀ d i : Nat, i + d = l.length → ∃ r, Ev (fun k => laws_zzFits15.l0 k l (l.length : Int) (i : Int)) r ∧ (r = true → ∀ x ∈ l.drop i, x.f0.size ≤ 2147483647 ∧ x.f3.length ≤ 2147483647)
  | 0, i, h => ⟨true, Ev.step (f := fun _ => some true) (fun k => by simp only [laws_zzFits15.l0]; rw [if_neg (by omega)]) (Ev.now _), fun _ x hx => by rw [List.drop_of_length_le (by omega)] at hx; cases hx⟩
  | d + 1, i, h => by
    have hi : i < l.length := by omega
    obtain ⟨r, hr, hq⟩ := fits_from l hl d (i + 1) (by omega)
    by_cases hg : l[i].f0.size ≤ 2147483647 ∧ l[i].f3.length ≤ 2147483647
    · refine ⟨r, Ev.step (fun k => ?_) hr, fun h x hx => ?_⟩
      · simp only [laws_zzFits15.l0]
        rw [if_pos (by omega), if_pos (by omega), if_pos (by omega), rd35 l i hi]
        unfold laws_zzFits16.f
        rw [if_neg (by omega), if_neg (by omega), Option.bind_some, if_pos rfl, wrap_up _ (by omega)]
      · rw [List.drop_eq_getElem_cons hi, List.mem_cons] at hx
        rcases hx with rfl | hx
        · exact hg
        · exact hq h x hx
    · refine ⟨false, Ev.step (f := fun _ => some false) (fun k => ?_) (Ev.now _), fun h => by cases h⟩
      simp only [laws_zzFits15.l0]
      rw [if_pos (by omega), if_pos (by omega), if_pos (by omega), rd35 l i hi]
      unfold laws_zzFits16.f
      by_cases g1 : l[i].f0.size ≤ 2147483647
      · rw [if_neg (by omega), if_pos (by omega)]; rfl
      · rw [if_pos (by omega)]; rfl
theorem fits_some (l : List S35) : ∃ k r, laws_zzFits15.f k l = some r ∧ (r = true → l.length ≤ 2147483647 ∧ ∀ x ∈ l, x.f0.size ≤ 2147483647 ∧ x.f3.length ≤ 2147483647) := by
  by_cases h : (l.length : Int) > 2147483647
  · exact ⟨0, false, by unfold laws_zzFits15.f; rw [if_pos h], by simp⟩
  · obtain ⟨r, hr, hq⟩ := fits_from l (by omega) l.length 0 (by omega)
    obtain ⟨k, hk⟩ := hr.rounds
    exact ⟨k, r, by unfold laws_zzFits15.f; rw [if_neg h]; exact hk, fun hr => ⟨by omega, hq hr⟩⟩
end Go.Proofs.Ytfanlhkpblemgaa
