/- FnAttributesFit: the walk of split. -/
import Derived.Test.YtjpahogldfmaeabDoorAgWalk
import Derived.Test.YtjpahogldfmaeabDoorPFnAttributesFitx4
import Derived.Test.YtjpahogldfmaeabDoorKx
import Derived.Outline
namespace Go.Proofs.YtjpahogldfmaeabDoor
open Go.ChangeShapes Go.WideShapes Go.ChangeAt Go.RowKit Go.Rd
open Go.Proofs.YtjpahogldfmaeabDoorW.PrintWords Go.Proofs.YtjpahogldfmaeabDoorW.PrintLast Go.Proofs.YtjpahogldfmaeabDoorW.PrintMore
open PFnAttributesFit (S34 S47 k34 k47 rd_T34 at_T34 info5 z34)

theorem info9' : (Tryd.prog.info? 9).map (fun i => (i.zero, i.size, i.bytes)) = some (some (.string ⟨#[]⟩), 1, 16) := by kernel_rfl
theorem info32' : (Tryd.prog.info? 32).map (fun i => (i.zero, i.size, i.bytes)) = some (some (.slice none 0 0), 1, 24) := by kernel_rfl

set_option maxHeartbeats 1000000 in
theorem split_any (A0 : Option Addr) (c0 : Nat) (l0 : List S34) (w : World) (hr0 : Kd.C k34 w A0 l0.length l0) (hn : l0.length ≤ 40) (hv : Hid (∀ x ∈ l0, x.f1.length ≤ 4096)) :
    Calls Tryd.prog 13 #[.slice A0 l0.length c0] w fun e w' => ∃ v v', e = .returned (.tuple #[v, v']) ∧ Kd.R Kd.string 9 w' w.heap.size (fun _ => True) v (l0.map (·.f0)) ∧ Kd.R (Kd.slice 5 (Kd.int .u8)) 32 w' w.heap.size (fun _ => True) v' (l0.map (·.f1)) ∧ Below w.heap.size w w' := by
  go_enter Tryd.func13, Tryd.ntmps13
  go_wp2
  go_loopw [4, 5, 10] (fun v4 v5 i wr => ∃ k : Nat, k ≤ l0.length ∧ i = .int .i64 k ∧ Kd.R Kd.string 9 wr w.heap.size (fun _ => True) v4 ((l0.take k).map (·.f0)) ∧ Kd.R (Kd.slice 5 (Kd.int .u8)) 32 wr w.heap.size (fun _ => True) v5 ((l0.take k).map (·.f1)) ∧ Below w.heap.size w wr) (fun _ _ i _ => l0.length - (intOf i).toNat)
  case atStart => exact ⟨0, Nat.zero_le _, rfl, Kd.R_nil _ _ _ _ _, Kd.R_nil _ _ _ _ _, Below.refl _ _⟩
  case round =>
    obtain ⟨k, hk, rfl, hR4, hR5, hB⟩ := hrel
    by_cases hlt : k < l0.length
    · obtain ⟨ad, A1, c1, hA, hx0, hx1, hl1, hC1⟩ := at_T34 hr0 (k : Int) (by omega) (by omega)
      subst hA
      rw [Int.toNat_natCast] at hx0 hx1
      have hx0' := (hB.cell (World.block_lt_of_cell? w _ hx0)).trans hx0
      have hx1' := (hB.cell (World.block_lt_of_cell? w _ hx1)).trans hx1
      have hsn := hv.out l0[k] (List.getElem_mem hlt)
      have hrd : rd_T34 l0 (k : Int) = l0[k] := getD_at l0 z34 k hlt
      rw [hrd] at hx0 hx1 hx0' hx1' hC1 hl1
      clear hrd
      have hl31 : l0.length ≤ 40 := hn
      go_wp2_with (first
        | (at_builtin; (refine Kd.R_append Kd.string (w0 := w) w.heap.size rfl (.tmp 14) (.tmp 17) 39 9 (.string ⟨#[]⟩) 16 rfl Tryd.underlying39 info9' rfl (by decide) (by decide) u4 _ l0[k].f0 [.string l0[k].f0] (fun _ => True) (fun _ => False) rfl (by simp [Act.eval]) rfl (fun _ h => h.elim) (fun _ _ => trivial) (Kd.R_alloc hR4 _) (hB.alloc hB.size _) (hB.alloc hB.size _).size (by simp; omega) ?_; intro v1 w1 hR4' hB1 hg1 hat1; have hR5' := R_beside (Kd.R_alloc hR5 _) (Kd.R_own (Kd.R_alloc hR4 _)).choose_spec (by decide) hg1; have hbx := kept_new (Kd.R_own hR4).choose_spec hg1; have hbx1 := cell_of hbx 1))
        | (at_builtin; (refine append_none rfl (.const (.slice none 0 0)) (.tmp 21) 32 5 rfl Tryd.underlying32 info5 A1 _ _ _ rfl rfl (Kd.C_below hC1 hB1) (by omega) ?_; intro v2 w2 hR2 hB2; obtain ⟨A2, c2, e2⟩ := Kd.R_slice hR2; subst e2; have hR5'' := Kd.R_below hR5' hB2; have hR4'' := Kd.R_below hR4' hB2; have hBw2 := hB1.trans (hB2.mono hB1.size)))
        | (at_builtin; (refine Kd.R_append (Kd.slice 5 (Kd.int .u8)) (w0 := w) w.heap.size rfl (.tmp 19) (.tmp 23) 40 32 (.slice none 0 0) 24 rfl Tryd.underlying40 info32' rfl (by decide) (by decide) u5 _ l0[k].f1 [.slice A2 l0[k].f1.length c2] (fun _ => True) (fun j => w1.heap.size ≤ j) rfl (by simp [Act.eval]) ⟨_, rfl, Kd.R_lower hR2 hB1.size⟩ (fun j hj => ⟨trivial, fun e => by have := own_lt (Kd.R_own hR5').choose_spec _ e.symm; omega⟩) (fun _ _ => trivial) hR5'' hBw2 hBw2.size (by simp; omega) ?_; intro v3 w3 hR5f hB3 hg3 hat3; have hR4f := R_beside hR4'' (Kd.R_own hR5'').choose_spec (by decide) hg3)))
      go_roundw
      case rel =>
        rw [← take_snoc_map _ _ _ hlt] at hR4f hR5f
        exact ⟨k + 1, by omega, by go_num, hR4f, hR5f, hB3⟩
      case measure => simp [intOf]; omega
    · obtain rfl : k = l0.length := by omega
      rw [List.take_length] at hR4 hR5
      go_wp2
      go_ret2
      exact ⟨_, _, rfl, hR4, hR5, hB⟩
end Go.Proofs.YtjpahogldfmaeabDoor
