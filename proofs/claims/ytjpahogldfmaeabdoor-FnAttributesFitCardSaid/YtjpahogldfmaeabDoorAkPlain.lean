/- FnAttributesFit: what the printed functions come to. -/
import Derived.Test.YtjpahogldfmaeabDoorAjWalk
namespace Go.Proofs.YtjpahogldfmaeabDoor
open Go.RowKit Go.Rd
open Go.Proofs.YtjpahogldfmaeabDoorW.PrintWords Go.Proofs.YtjpahogldfmaeabDoorW.PrintLast Go.Proofs.YtjpahogldfmaeabDoorW.PrintMore
open PFnAttributesFit

theorem wrap_succ (n : Nat) (h : n ≤ 2147483648) : wrap64 ((n : Int) + 1) = ((n + 1 : Nat) : Int) := by unfold wrap64; omega

theorem begins_hasP (s p : ByteArray) : spec_Begins.f s p = some (hasP s p) := by
  unfold spec_Begins.f hasP
  by_cases h : p.size ≤ s.size
  · rw [if_pos (by omega), if_pos (by omega), if_pos (by omega), decide_eq_true h, Int.toNat_natCast]
    rfl
  · rw [if_neg (by omega), decide_eq_false h]
    rfl

abbrev L7 : List Int := [2, 3, 8, 7, 1, 4, 6]
theorem pre_step (k : Nat) (s : ByteArray) (j c : Int) (p : ByteArray) (h0 : 0 ≤ j) (h1 : j < 7) (hr : rd L7 j = c) (hp : spec_prefix.f c = some (p, true)) :
    spec_Prefixed.l0 (k + 1) s L7 7 j = if hasP s p then some (c, s.extract p.size s.size) else spec_Prefixed.l0 k s L7 7 (wrap64 (j + 1)) := by
  simp only [spec_Prefixed.l0]
  rw [if_pos h1, if_pos h0, if_pos (by simpa using h1), hr, hp]
  simp only [Option.bind_some]
  rw [begins_hasP]
  simp only [Option.bind_some]
  by_cases h : hasP s p = true
  · have hle : p.size ≤ s.size := by
      simp only [hasP, Bool.and_eq_true, decide_eq_true_eq] at h
      exact h.1
    rw [if_pos h, if_pos h, if_pos (by omega), if_pos (by omega), Int.toNat_natCast]
  · rw [if_neg h, if_neg h]
theorem prefixed_ev (s : ByteArray) : Ev (fun k => spec_Prefixed.f k s) (pick s prefs) := by
  refine Ev.of (spec_Prefixed.mono s) (k := 8) ?_
  unfold spec_Prefixed.f
  simp only [Option.bind_some]
  show spec_Prefixed.l0 8 s L7 7 0 = _
  rw [pre_step 7 s 0 2 _ (by decide) (by decide) rfl rfl, show wrap64 (0 + 1) = 1 by unfold wrap64; omega, pre_step 6 s 1 3 _ (by decide) (by decide) rfl rfl, show wrap64 (1 + 1) = 2 by unfold wrap64; omega, pre_step 5 s 2 8 _ (by decide) (by decide) rfl rfl, show wrap64 (2 + 1) = 3 by unfold wrap64; omega,
    pre_step 4 s 3 7 _ (by decide) (by decide) rfl rfl, show wrap64 (3 + 1) = 4 by unfold wrap64; omega, pre_step 3 s 4 1 _ (by decide) (by decide) rfl rfl, show wrap64 (4 + 1) = 5 by unfold wrap64; omega, pre_step 2 s 5 4 _ (by decide) (by decide) rfl rfl, show wrap64 (5 + 1) = 6 by unfold wrap64; omega,
    pre_step 1 s 6 6 _ (by decide) (by decide) rfl rfl, show wrap64 (6 + 1) = 7 by unfold wrap64; omega]
  rw [show spec_Prefixed.l0 1 s L7 7 7 = some (0, s) from by simp only [spec_Prefixed.l0]; rw [if_neg (by decide)]]
  unfold prefs
  simp only [pick, apply_ite some]
  rfl

theorem rd34 (l : List S34) (i : Nat) (h : i < l.length) : rd_T34 l (i : Int) = l[i] := getD_at l z34 i h
theorem rd47 (l : List S47) (i : Nat) (h : i < l.length) : rd_T47 l (i : Int) = l[i] := getD_at l z47 i h

theorem fits_from (l : List S34) (hl : l.length ≤ 2147483647) : ∀ (d i : Nat), i + d = l.length → ∃ r, Ev (fun k => laws_zzFits7.l0 k l (l.length : Int) (i : Int)) r
  | 0, i, h => ⟨true, Ev.step (f := fun _ => some true) (fun k => by simp only [laws_zzFits7.l0]; rw [if_neg (by omega)]) (Ev.now _)⟩
  | d + 1, i, h => by
    obtain ⟨b, hb⟩ : ∃ b, laws_zzFits8.f (rd_T34 l i).f0 (rd_T34 l i).f1 = some b := by
      unfold laws_zzFits8.f
      split
      · exact ⟨_, rfl⟩
      · split <;> exact ⟨_, rfl⟩
    obtain ⟨r, hr⟩ := fits_from l hl d (i + 1) (by omega)
    cases b with
    | true => exact ⟨r, Ev.step (fun k => by simp only [laws_zzFits7.l0]; rw [if_pos (by omega), if_pos (by omega), if_pos (by omega), hb]; simp only [Option.bind_some, if_true]; rw [wrap_succ _ (by omega)]) hr⟩
    | false => exact ⟨false, Ev.step (f := fun _ => some false) (fun k => by simp only [laws_zzFits7.l0]; rw [if_pos (by omega), if_pos (by omega), if_pos (by omega), hb]; simp) (Ev.now _)⟩
theorem fits_some (l : List S34) : ∃ k r, laws_zzFits7.f k l = some r ∧ (r = true → l.length ≤ 2147483647) := by
  by_cases h : (l.length : Int) > 2147483647
  · exact ⟨0, false, by unfold laws_zzFits7.f; rw [if_pos h], by simp⟩
  · obtain ⟨r, hr⟩ := fits_from l (by omega) l.length 0 (by omega)
    obtain ⟨k, hk⟩ := hr.rounds
    exact ⟨k, r, by unfold laws_zzFits7.f; rw [if_neg h]; exact hk, fun _ => by omega⟩

theorem dup_some (v : List Int) (h : v.length ≤ 4096) : laws_dup.f v = some v := by
  unfold laws_dup.f
  simp only [Option.bind_some]
  rw [if_pos (by simp; omega)]
  simp
theorem dup_from (l : List S34) (hl : l.length ≤ 40) (hv : ∀ x ∈ l, x.f1.length ≤ 4096) : ∀ (d i : Nat), i + d = l.length → Ev (fun k => laws_dupXattrs.l0 k (l.take i) l (l.length : Int) (i : Int)) l
  | 0, i, h => Ev.step (f := fun _ => some l) (fun k => by simp only [laws_dupXattrs.l0]; rw [if_neg (by omega), List.take_of_length_le (by omega)]) (Ev.now _)
  | d + 1, i, h => by
    have ih := dup_from l hl hv d (i + 1) (by omega)
    have hi : i < l.length := by omega
    refine Ev.step (fun k => ?_) ih
    simp only [laws_dupXattrs.l0]
    rw [if_pos (by omega), if_pos (by omega), if_pos (by omega), rd34 l i hi, dup_some _ (hv _ (List.getElem_mem hi))]
    simp only [Option.bind_some]
    rw [if_pos (by simp; omega), wrap_succ _ (by omega), List.take_succ_eq_append_getElem hi]
theorem dup_ev (l : List S34) (hl : l.length ≤ 40) (hv : ∀ x ∈ l, x.f1.length ≤ 4096) : ∃ k, laws_dupXattrs.f k l = some l := (dup_from l hl hv l.length 0 (by omega)).rounds

theorem attr_from (l : List S34) (hl : l.length ≤ 40) : ∀ (d i : Nat), i + d = l.length → Ev (fun k => laws_attributes.l0 k ((l.take i).map to47) l (l.length : Int) (i : Int)) (l.map to47)
  | 0, i, h => Ev.step (f := fun _ => some (l.map to47)) (fun k => by simp only [laws_attributes.l0]; rw [if_neg (by omega), List.take_of_length_le (by omega)]) (Ev.now _)
  | d + 1, i, h => by
    have ih := attr_from l hl d (i + 1) (by omega)
    have hi : i < l.length := by omega
    refine Ev.step (fun k => ?_) ih
    simp only [laws_attributes.l0]
    rw [if_pos (by omega), if_pos (by omega), if_pos (by omega), rd34 l i hi, if_pos (by simp; omega), wrap_succ _ (by omega), List.take_succ_eq_append_getElem hi, List.map_append]
    rfl
theorem attr_ev (l : List S34) (hl : l.length ≤ 40) : ∃ k, laws_attributes.f k l = some (l.map to47) := (attr_from l hl l.length 0 (by omega)).rounds

/-- What the statement's guards let in. -/
def Good (x : S34) : Prop := (pick x.f0 prefs).2.size ≤ 255 ∧ x.f1.length ≤ 4096
theorem names_from (l y : List S34) (i : Nat) (f0 : ByteArray) (f1 : List Int) (hy : y.length ≤ 40) (r0 : Bool) (hi : i ≤ 40) (h0 : Ev (fun k => laws_attributesFair.l0 k l l (l.length : Int) ((i + 1 : Nat) : Int)) r0) :
    ∀ (d m : Nat), m + d = y.length → ∃ r, Ev (fun k => laws_attributesFair.l1 k l l (l.length : Int) (i : Int) y (y.length : Int) (m : Int) f0 f1) r ∧ (r = true → r0 = true)
  | 0, m, h => ⟨r0, Ev.step (fun k => by simp only [laws_attributesFair.l1]; rw [if_neg (by omega), wrap_succ _ (by omega)]) h0, id⟩
  | d + 1, m, h => by
    obtain ⟨r, hr, hrr⟩ := names_from l y i f0 f1 hy r0 hi h0 d (m + 1) (by omega)
    by_cases e : f0.toList = (rd_T34 y (m : Int)).f0.toList
    · exact ⟨false, Ev.step (f := fun _ => some false) (fun k => by simp only [laws_attributesFair.l1]; rw [if_pos (by omega), if_pos (by omega), if_pos (by omega), if_pos e]) (Ev.now _), by simp⟩
    · exact ⟨r, Ev.step (fun k => by simp only [laws_attributesFair.l1]; rw [if_pos (by omega), if_pos (by omega), if_pos (by omega), if_neg e, wrap_succ _ (by omega)]) hr, hrr⟩
theorem fair_j (l : List S34) (i : Nat) (b : Bool) (f0 : ByteArray) (f1 : List Int) (hi : i ≤ l.length) (hl : l.length ≤ 40) (r0 : Bool) (h0 : Ev (fun k => laws_attributesFair.l0 k l l (l.length : Int) ((i + 1 : Nat) : Int)) r0) :
    ∃ r, Ev (fun k => laws_attributesFair.j1 k l (i : Int) l (l.length : Int) (i : Int) b f0 f1) r ∧ (r = true → b = false ∧ r0 = true) := by
  cases b with
  | true => exact ⟨false, Ev.step (f := fun _ => some false) (fun k => by simp only [laws_attributesFair.j1]; rw [if_pos trivial]) (Ev.now _), by simp⟩
  | false =>
    obtain ⟨r, hr, hrr⟩ := names_from l (l.take i) i f0 f1 (by simp; omega) r0 (by omega) h0 (l.take i).length 0 (by omega)
    exact ⟨r, Ev.step (fun k => by simp only [laws_attributesFair.j1]; rw [if_neg (by simp), if_pos (by omega), if_pos (by omega)]; simp only [Option.bind_some, Int.toNat_natCast]; rfl) hr, fun h => ⟨rfl, hrr h⟩⟩
theorem fair_from (l : List S34) (hl : l.length ≤ 40) : ∀ (d i : Nat), i + d = l.length → ∃ r, Ev (fun k => laws_attributesFair.l0 k l l (l.length : Int) (i : Int)) r ∧ (r = true → ∀ x ∈ l.drop i, Good x)
  | 0, i, h => ⟨true, Ev.step (f := fun _ => some true) (fun k => by simp only [laws_attributesFair.l0]; rw [if_neg (by omega)]) (Ev.now _), fun _ x hx => by rw [List.drop_eq_nil_of_le (by omega)] at hx; cases hx⟩
  | d + 1, i, h => by
    obtain ⟨r0, h0, hg⟩ := fair_from l hl d (i + 1) (by omega)
    have hi : i < l.length := by omega
    have hp := prefixed_ev l[i].f0
    obtain ⟨b, hb, hbb⟩ : ∃ b : Bool, (∀ k, laws_attributesFair.l0 (k + 1) l l (l.length : Int) (i : Int) = (spec_Prefixed.f k l[i].f0).bind fun bt114 => if bt114.2.toList = ([] : List UInt8) then (laws_attributesFair.j1 k l i l l.length i true l[i].f0 l[i].f1) else (if (bt114.2.size : Int) > 255 then (laws_attributesFair.j1 k l i l l.length i true l[i].f0 l[i].f1) else (laws_attributesFair.j1 k l i l l.length i (decide ((l[i].f1.length : Int) > 4096)) l[i].f0 l[i].f1))) ∧
        b = (decide ((pick l[i].f0 prefs).2.toList = ([] : List UInt8)) || decide (((pick l[i].f0 prefs).2.size : Int) > 255) || decide ((l[i].f1.length : Int) > 4096)) :=
      ⟨_, fun k => by simp only [laws_attributesFair.l0]; rw [if_pos (by omega), if_pos (by omega), if_pos (by omega), rd34 l i hi], rfl⟩
    obtain ⟨r, hr, hrr⟩ := fair_j l i b l[i].f0 l[i].f1 (by omega) hl r0 h0
    refine ⟨r, Ev.step hb (Ev.bind hp ?_), fun h => ?_⟩
    · refine Ev.congr (f := fun k => laws_attributesFair.j1 k l (i : Int) l (l.length : Int) (i : Int) b l[i].f0 l[i].f1) (fun k => ?_) hr
      subst hbb
      by_cases c1 : (pick l[i].f0 prefs).2.toList = ([] : List UInt8)
      · rw [if_pos c1]; simp [c1]
      · rw [if_neg c1]
        by_cases c2 : ((pick l[i].f0 prefs).2.size : Int) > 255
        · rw [if_pos c2, decide_eq_true c2]; simp
        · rw [if_neg c2, decide_eq_false c1, decide_eq_false c2]; simp
    · obtain ⟨h1, h2⟩ := hrr h
      intro x hx
      rw [List.drop_eq_getElem_cons hi] at hx
      rcases List.mem_cons.1 hx with rfl | hx
      · subst hbb
        simp only [Bool.or_eq_false_iff, decide_eq_false_iff_not] at h1
        obtain ⟨⟨_, h3⟩, h4⟩ := h1
        exact ⟨by omega, by omega⟩
      · exact hg h2 x hx
theorem fair_some (l : List S34) : ∃ k r, laws_attributesFair.f k l = some r ∧ (r = true → l.length ≤ 40 ∧ ∀ x ∈ l, Good x) := by
  by_cases h : (l.length : Int) > 40
  · exact ⟨0, false, by unfold laws_attributesFair.f; rw [if_pos h], by simp⟩
  · obtain ⟨r, hr, hg⟩ := fair_from l (by omega) l.length 0 (by omega)
    obtain ⟨k, hk⟩ := hr.rounds
    exact ⟨k, r, by unfold laws_attributesFair.f; rw [if_neg h]; exact hk, fun e => ⟨by omega, by simpa using hg e⟩⟩

theorem room_num (n m : Nat) (hs : n ≤ 255) (hv : m ≤ 4096) : wrap64 ((wrap64 (16 + (wrap64 ((wrap64 (Int.tdiv (wrap64 ((n : Int) + 3)) 4)) * 4)))) + (wrap64 ((wrap64 (Int.tdiv (wrap64 ((m : Int) + 3)) 4)) * 4))) = ((((n + 3) / 4 * 4 + 16 + (m + 3) / 4 * 4 : Nat)) : Int) := by
  have w : ∀ a : Int, 0 ≤ a → a ≤ 100000 → wrap64 a = a := fun a _ _ => by unfold wrap64; omega
  rw [w ((n : Int) + 3) (by omega) (by omega), w ((m : Int) + 3) (by omega) (by omega), Int.tdiv_eq_ediv_of_nonneg (by omega), Int.tdiv_eq_ediv_of_nonneg (by omega)]
  rw [w (((n : Int) + 3) / 4) (by omega) (by omega), w (((m : Int) + 3) / 4) (by omega) (by omega), w (((n : Int) + 3) / 4 * 4) (by omega) (by omega), w (((m : Int) + 3) / 4 * 4) (by omega) (by omega), w (16 + ((n : Int) + 3) / 4 * 4) (by omega) (by omega), w _ (by omega) (by omega)]
  omega
theorem room_ev (s : ByteArray) (v : List Int) (hs : (pick s prefs).2.size ≤ 255) (hv : v.length ≤ 4096) : Ev (fun k => spec_room.f k s v) (roomOf s v : Int) := by
  have e := room_num _ _ hs hv
  have h := Ev.bind (f := fun _ (bt148 : Int × ByteArray) => some (wrap64 ((wrap64 (16 + (wrap64 ((wrap64 (Int.tdiv (wrap64 ((bt148.2.size : Int) + 3)) 4)) * 4)))) + (wrap64 ((wrap64 (Int.tdiv (wrap64 ((v.length : Int) + 3)) 4)) * 4))))) (prefixed_ev s) (Ev.now _)
  rw [e] at h
  exact h

def roomsL (L : List S47) : List Nat := L.map fun z => roomOf z.f0 z.f1
theorem roomsL_eq (l : List S34) : roomsL (l.map to47) = roomsOf (l.map (·.f0)) (l.map (·.f1)) := by
  unfold roomsL roomsOf
  rw [List.map_map, List.zipWith_map]
  induction l with
  | nil => rfl
  | cons a l ih => simp [to47]
theorem fitted_from (L : List S47) (hl : L.length ≤ 40) (hg : ∀ z ∈ L, (pick z.f0 prefs).2.size ≤ 255 ∧ z.f1.length ≤ 4096) : ∀ (d i : Nat) (x y : Int) (I O : List Int), i + d = L.length → 0 ≤ x → x ≤ 96 → 0 ≤ y → y ≤ 4060 → I.length + O.length ≤ i →
    Ev (fun k => spec_Fitted.l0 k (I.map (rd_T47 L)) (O.map (rd_T47 L)) x y L (L.length : Int) (i : Int)) ((fitFrom ((roomsL L).drop i) i x y I O).1.map (rd_T47 L), (fitFrom ((roomsL L).drop i) i x y I O).2.1.map (rd_T47 L), (fitFrom ((roomsL L).drop i) i x y I O).2.2)
  | 0, i, x, y, I, O, h, _, _, _, _, _ => by
    rw [List.drop_eq_nil_of_le (by simp [roomsL]; omega)]
    exact Ev.step (f := fun _ => some _) (fun k => by simp only [spec_Fitted.l0]; rw [if_neg (by omega)]; rfl) (Ev.now _)
  | d + 1, i, x, y, I, O, h, hx0, hx1, hy0, hy1, hIO => by
    have hi : i < L.length := by omega
    obtain ⟨g1, g2⟩ := hg _ (List.getElem_mem hi)
    have e : (roomsL L).drop i = roomOf L[i].f0 L[i].f1 :: (roomsL L).drop (i + 1) := by
      rw [List.drop_eq_getElem_cons (by simp [roomsL]; omega)]
      simp [roomsL]
    rw [e]
    simp only [fitFrom]
    have hr := room_ev L[i].f0 L[i].f1 g1 g2
    have hst : ∀ k, spec_Fitted.l0 (k + 1) (I.map (rd_T47 L)) (O.map (rd_T47 L)) x y L (L.length : Int) (i : Int) = (spec_room.f k L[i].f0 L[i].f1).bind fun t152 => (if t152 ≤ x then (spec_Fitted.l0 k ((I ++ [(i : Int)]).map (rd_T47 L)) (O.map (rd_T47 L)) (wrap64 (x - t152)) y L L.length ((i + 1 : Nat) : Int)) else (if t152 ≤ y then (spec_Fitted.l0 k (I.map (rd_T47 L)) ((O ++ [(i : Int)]).map (rd_T47 L)) x (wrap64 (y - t152)) L L.length ((i + 1 : Nat) : Int)) else some (I.map (rd_T47 L), O.map (rd_T47 L), false))) := by
      intro k
      simp only [spec_Fitted.l0]
      rw [if_pos (by omega), if_pos (by omega), if_pos (by omega), rd47 L i hi]
      have hI : ((I.map (rd_T47 L)).length < 3518437208883) = True := eq_true (by simp; omega)
      have hO : ((O.map (rd_T47 L)).length < 3518437208883) = True := eq_true (by simp; omega)
      simp only [hI, hO, if_true, wrap_succ i (by omega), List.map_append, List.map_cons, List.map_nil, rd47 L i hi]
    refine Ev.step hst (Ev.bind hr ?_)
    by_cases c1 : (roomOf L[i].f0 L[i].f1 : Int) ≤ x
    · simp only [if_pos c1]
      have e1 : wrap64 (x - (roomOf L[i].f0 L[i].f1 : Int)) = x - (roomOf L[i].f0 L[i].f1 : Int) := by unfold wrap64; omega
      rw [e1]
      exact fitted_from L hl hg d (i + 1) _ y _ O (by omega) (by omega) (by omega) hy0 hy1 (by simp; omega)
    · simp only [if_neg c1]
      by_cases c2 : (roomOf L[i].f0 L[i].f1 : Int) ≤ y
      · simp only [if_pos c2]
        have e1 : wrap64 (y - (roomOf L[i].f0 L[i].f1 : Int)) = y - (roomOf L[i].f0 L[i].f1 : Int) := by unfold wrap64; omega
        rw [e1]
        exact fitted_from L hl hg d (i + 1) x _ I _ (by omega) hx0 hx1 (by omega) (by omega) (by simp; omega)
      · simp only [if_neg c2]
        exact Ev.now _
theorem fitted_ev (l : List S34) (hl : l.length ≤ 40) (hg : ∀ x ∈ l, Good x) (R : List Int × List Int × Bool) (hR : fitFrom (roomsOf (l.map (·.f0)) (l.map (·.f1))) 0 96 4060 [] [] = R) :
    ∃ k, spec_Fitted.f k (l.map to47) = some (R.1.map (rd_T47 (l.map to47)), R.2.1.map (rd_T47 (l.map to47)), R.2.2) := by
  have h := fitted_from (l.map to47) (by simpa using hl) (by simpa [to47, Good] using hg) (l.map to47).length 0 96 4060 [] [] (by omega) (by omega) (by omega) (by omega) (by omega) (by simp)
  rw [List.drop_zero, roomsL_eq, hR] at h
  exact h.rounds
end Go.Proofs.YtjpahogldfmaeabDoor
