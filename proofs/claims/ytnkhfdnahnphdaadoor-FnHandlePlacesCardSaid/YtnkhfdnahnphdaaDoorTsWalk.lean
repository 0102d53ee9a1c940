/- Steps of scripts that may tell errors: seeking, and cutting. -/
import Derived.Test.YtnkhfdnahnphdaaDoorHeWalk
import Derived.Test.YtnkhfdnahnphdaaDoorOsWalk
import Derived.Test.YtnkhfdnahnphdaaDoorTnWalk
namespace Go.Proofs.YtnkhfdnahnphdaaDoor
open Go.ChangeShapes Go.WideShapes Go.ChangeAt Go.RowKit Go.Rd
open Go.Proofs.YtnkhfdnahnphdaaDoorW.PrintWords Go.Proofs.YtnkhfdnahnphdaaDoorW.PrintLast Go.Proofs.YtnkhfdnahnphdaaDoorW.PrintMore

theorem StepOk.toE {s s' : St} {x : Stp × List Int} {a : Ans} (h : StepOk s x a s') : StepOkE s x a s' :=
  fun w f B fd dv hH hD hb hB _ => h w f B fd dv hH hD hb hB
theorem okE_trunc (s : St) (x : Stp) (b : List Int) (k : Nat) (hcl : s.cl = false) (hro : s.ro = false) (hop : x.op = 17) (hoff : x.off = (k : Int)) (hk : k ≤ 4294967296) :
    StepOkE s (x, b) ⟨0, 0, 0, []⟩ { s with bs := cutTo s.bs k } := by
  obtain ⟨at_, cl, ro, bs⟩ := s
  simp only at hcl hro
  subst hcl hro
  intro w f B fd dv hH hD hb hB _
  refine (on_trunc f B fd k at_ 0 dv _ x w hop hoff hH hD hk hB).mono ?_
  rintro e w' ⟨rfl, dv1, hH1, hD1, hW1, hat1⟩
  exact ⟨_, rfl, dv1, hH1, hD1, hW1, hat1, ansK_none _ _ _ _ _⟩
theorem okE_trunc_neg (s : St) (x : Stp) (b : List Int) (hcl : s.cl = false) (hro : s.ro = false) (hop : x.op = 17) (hoff : x.off < 0) :
    StepOkE s (x, b) ⟨7, 0, 0, []⟩ s := by
  obtain ⟨at_, cl, ro, bs⟩ := s
  simp only at hcl hro
  subst hcl hro
  rintro w f B fd dv hH hD hb hB ⟨ad, hS⟩
  refine (on_trunc_neg f B fd at_ 0 ad dv _ x w hop hoff hS hH hD hB).mono ?_
  rintro e w' ⟨rfl, dv1, hH1, hD1, hW1, hat1⟩
  exact ⟨_, rfl, dv1, hH1, hD1, hW1, hat1, ansK_none _ _ _ _ _⟩
theorem okE_trunc_ro (s : St) (x : Stp) (b : List Int) (hcl : s.cl = false) (hro : s.ro = true) (hop : x.op = 17) :
    StepOkE s (x, b) ⟨6, 0, 0, []⟩ s := by
  obtain ⟨at_, cl, ro, bs⟩ := s
  simp only at hcl hro
  subst hcl hro
  rintro w f B fd dv hH hD hb hB ⟨ad, hS⟩
  refine (on_trunc_ro f B fd at_ 0 ad dv _ x w hop hS hH hD hB).mono ?_
  rintro e w' ⟨rfl, dv1, hH1, hD1, hW1, hat1⟩
  exact ⟨_, rfl, dv1, hH1, hD1, hW1, hat1, ansK_none _ _ _ _ _⟩
end Go.Proofs.YtnkhfdnahnphdaaDoor
