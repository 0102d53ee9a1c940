/- Steps of scripts: what seeking and writing at a place do; and onOne. -/
import Derived.Test.YtnkhfdnahnphdaaDoorHsWalk
import Derived.Test.YtnkhfdnahnphdaaDoorWtWalk
namespace Go.Proofs.YtnkhfdnahnphdaaDoor
open Go.ChangeShapes Go.WideShapes Go.ChangeAt Go.RowKit Go.Rd
open Go.Proofs.YtnkhfdnahnphdaaDoorW.PrintWords Go.Proofs.YtnkhfdnahnphdaaDoorW.PrintLast Go.Proofs.YtnkhfdnahnphdaaDoorW.PrintMore

theorem Runs.len {s sn : St} {L : List (Stp × List Int)} {l : List Ans} (h : Runs s L l sn) : l.length = L.length := by
  induction h with
  | nil => rfl
  | cons _ _ ih => simp [ih]
theorem ansK_none (w : World) (S : Nat → Prop) (e n off : Int) : AnsK w S ⟨e, n, off, []⟩ [.int .i64 e, .int .i64 n, .int .i64 off, .slice none 0 0, .slice none 0 0, .slice none 0 0] :=
  ⟨none, 0, rfl, ⟨rfl, fun _ => ⟨rfl, rfl⟩, Nat.le_refl _, Nat.zero_le _, fun x hx => (by cases hx), fun c hc => (by cases hc)⟩, fun y hy => by cases hy⟩

theorem ok_write_at (s : St) (x : Stp) (b : List Int) (a : Nat) (hcl : s.cl = false) (hro : s.ro = false) (hop : x.op = 15) (hoff : x.off = (a : Int)) (ha : a ≤ s.bs.length) (hm : x.dl ≤ 4294967296) (hm2 : s.bs.length ≤ 4294967296) :
    StepOk s (x, b) ⟨0, x.dl, 0, []⟩ ⟨(a : Int) + x.dl, false, false, over s.bs a b⟩ := by
  obtain ⟨at_, cl, ro, bs⟩ := s
  simp only at hcl hro
  subst hcl hro
  intro w f B fd dv hH hD hb hB
  refine (on_write_at f B fd a at_ 0 dv _ x b w hop hoff hH hD hb ha hm hm2 hB).mono ?_
  rintro e w' ⟨rfl, dv1, hH1, hD1, hW1, hat1⟩
  exact ⟨_, rfl, dv1, hH1, hD1, hW1, hat1, ansK_none _ _ _ _ _⟩
theorem ok_seek (s : St) (x : Stp) (b : List Int) (hcl : s.cl = false) (hop : x.op = 16) (h1 : -1152921504606846976 ≤ s.at_ ∧ s.at_ ≤ 1152921504606846976) (h2 : -1152921504606846976 ≤ x.off ∧ x.off ≤ 1152921504606846976) (h3 : s.bs.length ≤ 1152921504606846976)
    (q : Int) (hq : seekTo ⟨s.at_, 0, s.cl, s.ro, 0⟩ s.bs.length x.off x.wh = q) : StepOk s (x, b) ⟨0, 0, q, []⟩ { s with at_ := q } := by
  intro w f B fd dv hH hD hb hB
  refine (on_seek f B dv (s.fh fd) s.fd x w hop hH hD hcl h1 h2 h3).mono ?_
  have e : seekTo (s.fh fd) s.fd.bs.length x.off x.wh = q := hq
  rw [e]
  rintro e w' ⟨rfl, hH1, hW1⟩
  exact ⟨_, rfl, dv, hH1, hD.wrote hW1 (fun e => fd_ne hD hH e) (fun k hk e => row_fh hD hH k hk e), hW1.mono (fun k _ hk => .inl hk), .inl rfl, ansK_none _ _ _ _ _⟩

set_option maxHeartbeats 1000000 in
theorem one_any (dA : Option Addr) (dm dc : Nat) (data : List Int) (A : Option Addr) (c : Nat) (L : List (Stp × List Int)) (answers : List Ans) (sn : St) (w : World) (hb : BytesIn w dA dm dc data) (hdm : dm ≤ 4294967296)
    (hS : ReadsRow (StepK w) 10 w A L.length L) (hL : L.length ≤ 1000000) (hR : Hid (Runs ⟨0, false, false, data⟩ L answers sn)) (hsn : sn.bs.length ≤ 4294967296) :
    Calls Tryd.prog 12 #[.slice dA dm dc, .slice A L.length c] w fun e w' => ∃ v lA lc, e = .returned (.tuple #[v, .slice lA sn.bs.length lc, .bool true]) ∧ OwnRow (AnsK w' (fun _ => False)) 42 6 w' w.heap.size v answers ∧ BytesIn w' lA sn.bs.length lc sn.bs ∧ Below w.heap.size w w' := by
  have hlen := Lib.hid (Runs.len hR.out)
  go_enter Tryd.func12, Tryd.ntmps12
  go_wp2_with (go_at_call 14; refine (script_any dA dm dc data false A c L answers sn w hb hdm hS hL hR hsn).mono ?_; rintro e w1 ⟨v, lA, lc, rfl, hO, hb1, hB1⟩; obtain ⟨Av, cv, ev, hlv⟩ := OwnRow.slice_ hO; rw [hlen.out] at ev hlv; subst ev)
  go_ret3
  exact ⟨_, lA, lc, rfl, hO, hb1, hB1⟩
end Go.Proofs.YtnkhfdnahnphdaaDoor
