/- Plain lists: a name without ".." below a rooted path. -/
import Derived.Test.YtfanlhkpblemgaaDoorPcPlain
import Derived.Lib.Strings
namespace Go.Pt
open Go.Lib.Pa

/-- What a name without ".." adds to the kept elements. -/
def good (n : List UInt8) : List (List UInt8) := (nels n).filter (fun e => e != [46])
def Level (n : List UInt8) : Prop := ∀ e ∈ nels n, e ≠ [46, 46]

theorem nels_no47 (n : List UInt8) : ∀ e ∈ nels n, 47 ∉ e := fun e he => els_no47 n e (List.mem_filter.1 he).1

theorem fold_level : ∀ (L st : List (List UInt8)), (∀ e ∈ L, e ≠ []) → (∀ e ∈ L, e ≠ [46, 46]) → L.foldl (cleanStep true) st = (L.filter (fun e => e != [46])).reverse ++ st
  | [], st, _, _ => rfl
  | e :: L, st, h1, h2 => by
    have ih := fun st => fold_level L st (fun x hx => h1 x (by simp [hx])) (fun x hx => h2 x (by simp [hx]))
    rw [List.foldl_cons, ih]
    by_cases h : e = [46]
    · subst h
      rw [List.filter_cons_of_neg (by simp)]
      simp [cleanStep]
    · rw [List.filter_cons_of_pos (by simpa using h)]
      have hs : cleanStep true st e = e :: st := by
        unfold cleanStep
        rw [if_neg (by simp [h1 e (by simp), h]), if_neg (h2 e (by simp))]
      rw [hs]
      simp

theorem nels_fold_from (l : List UInt8) (st : List (List UInt8)) : (els l).foldl (cleanStep true) st = (nels l).foldl (cleanStep true) st := by
  have : ∀ (L st : List (List UInt8)), (L.filter (fun e => !e.isEmpty)).foldl (cleanStep true) st = L.foldl (cleanStep true) st := by
    intro L
    induction L with
    | nil => intro st; rfl
    | cons e L ih =>
      intro st
      cases e with
      | nil => rw [List.filter_cons_of_neg (by simp), List.foldl_cons, ih]; simp [cleanStep]
      | cons c t => rw [List.filter_cons_of_pos (by simp), List.foldl_cons, List.foldl_cons, ih]
  exact (this _ _).symm

/-- A name that adds G, whatever is kept ahead of it. -/
def Adds (m : List UInt8) (G : List (List UInt8)) : Prop := ∀ st, (els m).foldl (cleanStep true) st = G.reverse ++ st

theorem adds_good {n : List UInt8} (h : Level n) : Adds n (good n) := by
  intro st
  rw [nels_fold_from]
  exact fold_level _ _ (nels_ne n) h
theorem good_fine {n : List UInt8} (h : Level n) : ∀ x ∈ good n, Fine x := by
  intro x hx
  have h1 := List.mem_filter.1 hx
  exact ⟨nels_ne n x h1.1, by simpa using h1.2, h x h1.1, nels_no47 n x h1.1⟩
theorem adds_inter {G : List (List UInt8)} (h : ∀ x ∈ G, Fine x) : Adds (47 :: inter G) G := by
  intro st
  have e : els (47 :: inter G) = [] :: els (inter G) := by rw [els, if_pos rfl]
  rw [e, List.foldl_cons]
  have e2 : cleanStep true st [] = st := by simp [cleanStep]
  rw [e2]
  cases G with
  | nil => simp [inter, List.intercalate, els, cleanStep]
  | cons g G => rw [els_inter _ (by simp) (fun x hx => (h x hx).2.2.2), fold_push _ _ h]
theorem adds_dots {n : List UInt8} {G : List (List UInt8)} (h : Adds n G) : Adds ([46] ++ 47 :: (n ++ 47 :: [])) G := by
  intro st
  rw [els_app, els_app, List.foldl_append, List.foldl_append]
  have e1 : (els [46]).foldl (cleanStep true) st = st := by simp [els, cleanStep]
  rw [e1, h]
  simp [els, cleanStep]

/-- The kept elements of a path. -/
def kept (p : List UInt8) : List (List UInt8) := (stack p).reverse
theorem kept_fine (p : List UInt8) : ∀ x ∈ kept p, Fine x := fun x hx => stack_fine p x (by simpa [kept] using hx)
theorem clean_kept (p : List UInt8) : cleanEls (47 :: p) = 47 :: inter (kept p) := nrm_eq p
theorem kept_inter {L : List (List UInt8)} (h : ∀ x ∈ L, Fine x) : kept (inter L) = L := by
  unfold kept
  rw [stack_inter _ h, List.reverse_reverse]
theorem kept_add {L G : List (List UInt8)} {m : List UInt8} (hL : ∀ x ∈ L, Fine x) (h : Adds m G) : kept (inter L ++ 47 :: m) = L ++ G := by
  unfold kept
  rw [stack_app, h, stack_inter _ hL]
  simp
theorem kept_dot (p : List UInt8) : kept (p ++ 47 :: [46]) = kept p := by
  unfold kept
  rw [stack_app]
  simp [els, cleanStep]
/-- What is joined and made clean. -/
theorem joined_clean {L G : List (List UInt8)} {m : List UInt8} (hL : ∀ x ∈ L, Fine x) (h : Adds m G) : cleanEls (if m = [] then 47 :: inter L else (47 :: inter L) ++ 47 :: m) = 47 :: inter (L ++ G) := by
  by_cases hm : m = []
  · subst hm
    rw [if_pos rfl, clean_kept, kept_inter hL]
    have := h []
    simp [els, cleanStep] at this
    subst this
    simp
  · rw [if_neg hm, List.cons_append, clean_kept, kept_add hL h]
theorem clean_again {L : List (List UInt8)} (h : ∀ x ∈ L, Fine x) : cleanEls (47 :: inter L) = 47 :: inter L := by
  rw [clean_kept, kept_inter h]

theorem inter_both : ∀ (L G : List (List UInt8)), L ≠ [] → G ≠ [] → inter (L ++ G) = inter L ++ 47 :: inter G
  | [], G, h, _ => absurd rfl h
  | [e], g :: G, _, _ => by rw [List.singleton_append, inter_cons2, inter_one]
  | e :: x :: L, G, _, hG => by
    have ih := inter_both (x :: L) G (by simp) hG
    simp only [List.cons_append] at ih ⊢
    rw [inter_cons2, inter_cons2, ih]
    simp
theorem prefix_both (L G : List (List UInt8)) : Go.Lib.hasPrefix (47 :: inter (L ++ G)) (47 :: inter L) = true := by
  unfold Go.Lib.hasPrefix
  rw [List.isPrefixOf_iff_prefix]
  by_cases hG : G = []
  · subst hG; simp
  · by_cases hL : L = []
    · subst hL; exact ⟨inter G, by simp [inter, List.intercalate]⟩
    · rw [inter_both L G hL hG]; exact ⟨47 :: inter G, by simp⟩
theorem prefix_more (L G : List (List UInt8)) (hL : L ≠ []) (hG : G ≠ []) : Go.Lib.hasPrefix (47 :: inter (L ++ G)) ((47 :: inter L) ++ [47]) = true := by
  unfold Go.Lib.hasPrefix
  rw [List.isPrefixOf_iff_prefix, inter_both L G hL hG]
  exact ⟨inter G, by simp⟩
end Go.Pt
