-- PRINTED BY print.sh 35421559b90ae4d0a3588c463048766b98c2df88dd9212a6774a882060cdf62d: not written by this session
import Derived.Test.YtfanlhkpblemgaaDoorPFnContainsInx0
import Derived.Test.YtfanlhkpblemgaaDoorPFnContainsInx1
namespace Go.Proofs.YtfanlhkpblemgaaDoor.PFnContainsIn
open Go.RowKit Go.Proofs.YtfanlhkpblemgaaDoorW.PrintWords Go.Proofs.YtfanlhkpblemgaaDoorW.PrintLast Go.Proofs.YtfanlhkpblemgaaDoorW.PrintMore
attribute [local go_sem] max2_int min2_int max_two min_two max_three min_three max_four min_four   -- for this text's walks alone
set_option linter.unusedVariables false
set_option linter.unusedSimpArgs false

/-! ### afero_zzContains: function 54 -/
def afero_zzContains.f (k : Nat) (a0 : ByteArray) (a1 : ByteArray) : Option (Bool) := (afero_zzIndex.f k a0 a1).bind fun t103 => (some (decide (t103 ≥ 0)))
theorem afero_zzContains.mono : ∀ a0 a1 k, LeO (afero_zzContains.f k a0 a1) (afero_zzContains.f (k + 1) a0 a1) := by
  intro a0 a1 k
  unfold afero_zzContains.f
  repeat' first
      | (with_reducible exact afero_zzIndex.mono _ _ _)
      | (with_reducible exact LeO.refl _)
      | (with_reducible exact LeO.none _)
      | (with_reducible refine LeO.ite ?_ ?_)
      | (with_reducible refine LeO.bind ?_ (fun _ => ?_))
      | exact afero_zzIndex.mono _ _ _
      | exact LeO.none _
      | refine LeO.ite ?_ ?_
      | refine LeO.bind ?_ (fun _ => ?_)
set_option maxHeartbeats 8000000 in
set_option maxRecDepth 100000 in
theorem afero_zzContains.calls (k : Nat) (a0 : ByteArray) (a1 : ByteArray) (r : Bool) (w : World) (h : afero_zzContains.f k a0 a1 = some r) :
    Calls Tryd.prog 54 #[.string a0, .string a1] w fun e w' => e = .returned (.bool r) ∧ Drawn0 w w' := by
  have H : ((afero_zzIndex.f k a0 a1).bind fun t103 => (some (decide (t103 ≥ 0)))) = some r := h
  clear h
  replace H := Option.bind_eq_some_iff.mp H
  obtain ⟨t103, A30, H⟩ := H
  replace H : (some (decide (t103 ≥ 0))) = some r := H
  have A3 := Aside0.mk A30
  clear A30
  obtain rfl := Option.some.inj H
  go_enter Tryd.func54, Tryd.ntmps54
  go_wp2_with (first | ((with_reducible refine gate_callee (f := 62) rfl ?_); refine goesL_ (some 7) rfl rfl Tryd.func62 (by kernel_rfl) rfl #[.string a0, .string a1] rfl (by (try simp only [List.map_toArray, List.map_cons, List.map_nil]); first | done | rfl | (simp only [List.length_drop, List.length_take]; rfl)) ?_; (with_reducible refine (afero_zzIndex.calls k a0 a1 t103 _ A3.out).mono ?_); rintro e w' ⟨rfl, ⟨nd, rfl⟩⟩; refine ⟨_, rfl, ?_⟩))
  go_ret
  exact ⟨by first | rfl | (simp; done) | (simp [*]; done), by repeat (first | exact Drawn0.refl _ | apply Drawn0.step)⟩

-- NOT PRINTED: function 40 (afero_readerContainsAny)

-- NOT PRINTED: function 24 (afero_DoorContains)

-- NOT PRINTED: function 25 (mem_NewReadOnlyFileHandle)

-- NOT PRINTED: function 41 (mem_CreateFile)

-- NOT PRINTED: function 26 (mem_DoorWith)

-- NOT PRINTED: function 9 (impl_ContainsIn)

-- NOT PRINTED: function 3 (laws_FnContainsIn)

end Go.Proofs.YtfanlhkpblemgaaDoor.PFnContainsIn
