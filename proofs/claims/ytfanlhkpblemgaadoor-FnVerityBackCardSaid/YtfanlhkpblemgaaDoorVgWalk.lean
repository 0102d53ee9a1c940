/- FnVerityBack: the superblock's bytes. -/
import Derived.Test.YtfanlhkpblemgaaDoorVfWalk
import Derived.Deep.RegionHeld3
namespace Go.Proofs.YtfanlhkpblemgaaDoor
open Go.RowKit Go.Rd
set_option linter.unusedVariables false
set_option linter.unusedSimpArgs false
open Go.Proofs.YtfanlhkpblemgaaDoorW.PrintWords Go.Proofs.YtfanlhkpblemgaaDoorW.PrintLast Go.Proofs.YtfanlhkpblemgaaDoorW.PrintMore

/-- What the bytes are so far. -/
def sb (u : List Int) (n : Int) : Nat → List Int
  | 0 => sigV
  | 1 => (sigV ++ le32 1)
  | 2 => ((sigV ++ le32 1) ++ le32 1)
  | 3 => (((sigV ++ le32 1) ++ le32 1) ++ u)
  | 4 => ((((sigV ++ le32 1) ++ le32 1) ++ u) ++ algZ)
  | 5 => (((((sigV ++ le32 1) ++ le32 1) ++ u) ++ algZ) ++ le32 4096)
  | 6 => ((((((sigV ++ le32 1) ++ le32 1) ++ u) ++ algZ) ++ le32 4096) ++ le32 4096)
  | 7 => (((((((sigV ++ le32 1) ++ le32 1) ++ u) ++ algZ) ++ le32 4096) ++ le32 4096) ++ le32 n)
  | 8 => ((((((((sigV ++ le32 1) ++ le32 1) ++ u) ++ algZ) ++ le32 4096) ++ le32 4096) ++ le32 n) ++ le32 0)
  | 9 => (((((((((sigV ++ le32 1) ++ le32 1) ++ u) ++ algZ) ++ le32 4096) ++ le32 4096) ++ le32 n) ++ le32 0) ++ [32, 0])
  | 10 => ((((((((((sigV ++ le32 1) ++ le32 1) ++ u) ++ algZ) ++ le32 4096) ++ le32 4096) ++ le32 n) ++ le32 0) ++ [32, 0]) ++ List.replicate 6 0)
  | 11 => (((((((((((sigV ++ le32 1) ++ le32 1) ++ u) ++ algZ) ++ le32 4096) ++ le32 4096) ++ le32 n) ++ le32 0) ++ [32, 0]) ++ List.replicate 6 0) ++ z256)
  | _ => ((((((((((((sigV ++ le32 1) ++ le32 1) ++ u) ++ algZ) ++ le32 4096) ++ le32 4096) ++ le32 n) ++ le32 0) ++ [32, 0]) ++ List.replicate 6 0) ++ z256) ++ List.replicate 168 0)
theorem sb_s0 (u : List Int) (n : Int) : sb u n 1 = sb u n 0 ++ le32 1 := rfl
theorem sb_s1 (u : List Int) (n : Int) : sb u n 2 = sb u n 1 ++ le32 1 := rfl
theorem sb_s2 (u : List Int) (n : Int) : sb u n 3 = sb u n 2 ++ u := rfl
theorem sb_s3 (u : List Int) (n : Int) : sb u n 4 = sb u n 3 ++ algZ := rfl
theorem sb_s4 (u : List Int) (n : Int) : sb u n 5 = sb u n 4 ++ le32 4096 := rfl
theorem sb_s5 (u : List Int) (n : Int) : sb u n 6 = sb u n 5 ++ le32 4096 := rfl
theorem sb_s6 (u : List Int) (n : Int) : sb u n 7 = sb u n 6 ++ le32 n := rfl
theorem sb_s7 (u : List Int) (n : Int) : sb u n 8 = sb u n 7 ++ le32 0 := rfl
theorem sb_s8 (u : List Int) (n : Int) : sb u n 9 = sb u n 8 ++ [32, 0] := rfl
theorem sb_s9 (u : List Int) (n : Int) : sb u n 10 = sb u n 9 ++ List.replicate 6 0 := rfl
theorem sb_s10 (u : List Int) (n : Int) : sb u n 11 = sb u n 10 ++ z256 := rfl
theorem sb_s11 (u : List Int) (n : Int) : sb u n 12 = sb u n 11 ++ List.replicate 168 0 := rfl
theorem cast_row {base : Nat} {w : World} {v : Value} {l l2 : List Int} (e : l2 = l) (h : Row base w v l) : Row base w v l2 := e ▸ h
theorem sb_len {u : List Int} (n : Int) (hu : u.length = 16) (k : Nat) : (sb u n k).length ≤ 1000 := by
  unfold sb
  have h1 : sigV.length = 8 := rfl
  have h2 : algZ.length = 32 := rfl
  have h3 := z256_len
  split <;> simp only [List.length_append, le32_length, hu, h1, h2, h3, List.length_cons, List.length_nil, List.length_replicate] <;> omega
set_option maxRecDepth 100000 in
set_option maxHeartbeats 16000000 in
theorem bytes_any (b : Nat) (u : List Int) (n : Int) (w : World) (hS : SbIs w b u n) (hu : u.length = 16) (hf : Fit8 u) (hn1 : 0 ≤ n) (hn2 : n ≤ 1000) :
    Calls Tryd.prog 46 #[.pointer (some ⟨b, 0, none⟩)] w (BytesPost (sb u n 12) w) := by
  have hbl : b < w.heap.size := lt_of_heap hS
  obtain ⟨g0, g10, g26, g62⟩ := hS.segs hu hf
  have hsc := fun (wx : World) (hx : Below w.heap.size w wx) => (hS.below hx hbl).scalars hu
  have hsg := fun (wx : World) (hx : Below w.heap.size w wx) => (hS.below hx hbl).segs hu hf
  have HSC := Lib.hid hsc
  have HSG := Lib.hid hsg
  have HLN := Lib.hid (sb_len (u := u) n hu)
  have q1 : IntKind.u32.wrap n = n := by
    have : IntKind.u32.wrap n = n % 4294967296 := by simp [IntKind.wrap, IntKind.bits, IntKind.signed]
    rw [this]; omega
  have q2 : n / 4294967296 = 0 := by omega
  have q3 : IntKind.u32.wrap 0 = 0 := by decide
  have HN := Lib.hid (show 0 ≤ n ∧ n ≤ 4294967295 by omega)
  clear hn1 hn2 hsc hsg hS hf hu g10 g26 g62
  go_enter Tryd.func46, Tryd.ntmps46
  go_wp2_with (at_builtin; refine app_bytes w.heap.size rfl (.const (.slice none 0 0)) (.tmp 7) rfl (.slice none 0 0) [] rfl (Row.nil _ _) (some ⟨b, 0, none⟩) 8 8 sigV rfl g0 (by decide) (Nat.le_refl _) ?_; rw [List.nil_append]; intro v1 w1 hR1 hg1 hL1)
  have hS : Sofar w (sb u n 0) v1 w1 := ⟨hR1, hL1⟩
  clear hR1 hL1 hg1 g0
  obtain ⟨hR0, hL0⟩ := hS
  obtain ⟨s8, s9, s58, s59, s60, s61⟩ := HSC.out _ hL0
  have hZ0 := hL0.size
  go_upto_region 2 with fail
  go_cut [3] (fun v wx => Sofar w (sb u n 2) v wx)
  case first =>
    go_region_held3 (fun w' => w'.cell? ⟨b, 8, none⟩ = some (.int .u32 1) ∧ w'.cell? ⟨b, 9, none⟩ = some (.int .u32 1)) (first | go_keep | (go_split_ands; refine ⟨?_, ?_⟩ <;> assumption)) (first
      | (go_at_call 59; refine (put32_any w.heap.size v11 (sb u n 1) _ _ h11 hZ11 (Nat.le_trans (HLN.out 1) (by decide)) (by first | exact HN.out | decide)).mono ?_; rintro e w12 ⟨v12, rfl, h12, hB12'⟩; have hB12 := hB11.trans hB12'; obtain ⟨s8, s9, s58, s59, s60, s61⟩ := HSC.out _ hB12)
      | (go_at_call 59; refine (put32_any w.heap.size v1 (sb u n 0) _ _ hR0.drew hZ0 (Nat.le_trans (HLN.out 0) (by decide)) (by first | exact HN.out | decide)).mono ?_; rintro e w11 ⟨v11, rfl, h11', hB11'⟩; have h11 : Row w.heap.size w11 v11 (sb u n 1) := cast_row (sb_s0 u n) h11'; have hB11 := hL0.drew.trans hB11'; have hZ11 : w.heap.size ≤ w11.heap.size := hB11.size; clear h11' hB11'; obtain ⟨s8, s9, s58, s59, s60, s61⟩ := HSC.out _ hB11))
    all_goals
      go_wp2_with fail
      go_meet
      exact ⟨cast_row (sb_s1 u n) h12, hB12⟩
  case rest =>
    have hS := hcut
    clear hcut s8 s9 s58 s59 s60 s61 hR0 hL0 hZ0
    obtain ⟨hR0, hL0⟩ := hS
    obtain ⟨s8, s9, s58, s59, s60, s61⟩ := HSC.out _ hL0
    have hZ0 := hL0.size
    obtain ⟨g0, g10, g26, g62⟩ := HSG.out _ hL0
    have HRUN := Lib.hid (fun ty => run_bytes (W := wc.drew) w.heap.size ty u3 (sb u n 2) hR0.drew (some ⟨b, 10, none⟩) 16 16 u (g10.below ((Below.refl _ _).drew)) (by have := HLN.out 2; omega) hZ0)
    clear g0 g10 g26 g62
    go_upto_region 3 with fail
    go_cut [3] (fun v wx => Sofar w (sb u n 4) v wx)
    case first =>
      go_region_law (first
        | (refine step_append_run rfl (.tmp 25) (.tmp 29) 22 rfl v11 (.slice (some ⟨b, 26, none⟩) 32 32) (by simp [Act.eval, Act.put]) (by simp [Act.eval, Act.put]) _ (HRUN2.out _) ?_; rintro v12 w12 ⟨h12, hB12'⟩; have hB12 := hB11.trans hB12')
        | (refine step_append_run rfl (.tmp 20) (.tmp 24) 22 rfl u3 (.slice (some ⟨b, 10, none⟩) 16 16) (by simp [Act.eval, Act.put]) (by simp [Act.eval, Act.put]) _ (HRUN.out _) ?_; rintro v11 w11 ⟨h11', hB11'⟩; have h11 : Row w.heap.size w11 v11 (sb u n 3) := cast_row (sb_s2 u n) h11'; have hB11 := hL0.drew.trans hB11'; have hZ11 : w.heap.size ≤ w11.heap.size := hB11.size; clear h11' hB11'; have HRUN2 := Lib.hid (fun ty => run_bytes (W := w11) w.heap.size ty v11 (sb u n 3) h11 (some ⟨b, 26, none⟩) 32 32 algZ (HSG.out _ hB11).2.2.1 (by have := HLN.out 3; omega) hZ11)))
      all_goals
        go_wp2_with fail
        go_meet
        exact ⟨cast_row (sb_s3 u n) h12, hB12⟩
    case rest =>
      have hS := hcut
      clear hcut s8 s9 s58 s59 s60 s61 hR0 hL0 hZ0
      obtain ⟨hR0, hL0⟩ := hS
      obtain ⟨s8, s9, s58, s59, s60, s61⟩ := HSC.out _ hL0
      have hZ0 := hL0.size
      go_upto_region 4 with fail
      go_cut [3] (fun v wx => Sofar w (sb u n 6) v wx)
      case first =>
        go_region_held3 (fun w' => w'.cell? ⟨b, 58, none⟩ = some (.int .u32 4096) ∧ w'.cell? ⟨b, 59, none⟩ = some (.int .u32 4096)) (first | go_keep | (go_split_ands; refine ⟨?_, ?_⟩ <;> assumption)) (first
          | (go_at_call 59; refine (put32_any w.heap.size v11 (sb u n 5) _ _ h11 hZ11 (Nat.le_trans (HLN.out 5) (by decide)) (by first | exact HN.out | decide)).mono ?_; rintro e w12 ⟨v12, rfl, h12, hB12'⟩; have hB12 := hB11.trans hB12'; obtain ⟨s8, s9, s58, s59, s60, s61⟩ := HSC.out _ hB12)
          | (go_at_call 59; refine (put32_any w.heap.size u3 (sb u n 4) _ _ hR0.drew hZ0 (Nat.le_trans (HLN.out 4) (by decide)) (by first | exact HN.out | decide)).mono ?_; rintro e w11 ⟨v11, rfl, h11', hB11'⟩; have h11 : Row w.heap.size w11 v11 (sb u n 5) := cast_row (sb_s4 u n) h11'; have hB11 := hL0.drew.trans hB11'; have hZ11 : w.heap.size ≤ w11.heap.size := hB11.size; clear h11' hB11'; obtain ⟨s8, s9, s58, s59, s60, s61⟩ := HSC.out _ hB11))
        all_goals
          go_wp2_with fail
          go_meet
          exact ⟨cast_row (sb_s5 u n) h12, hB12⟩
      case rest =>
        have hS := hcut
        clear hcut s8 s9 s58 s59 s60 s61 hR0 hL0 hZ0
        obtain ⟨hR0, hL0⟩ := hS
        obtain ⟨s8, s9, s58, s59, s60, s61⟩ := HSC.out _ hL0
        have hZ0 := hL0.size
        go_upto_region 5 with fail
        go_cut [3] (fun v wx => Sofar w (sb u n 8) v wx)
        case first =>
          go_region_held3 (fun w' => w'.cell? ⟨b, 60, none⟩ = some (.int .u64 n)) (first | go_keep | (go_split_ands; assumption) | assumption) (first
            | (go_at_call 59; refine (put32_any w.heap.size v11 (sb u n 7) _ _ h11 hZ11 (Nat.le_trans (HLN.out 7) (by decide)) (by first | exact HN.out | decide)).mono ?_; rintro e w12 ⟨v12, rfl, h12, hB12'⟩; have hB12 := hB11.trans hB12'; obtain ⟨s8, s9, s58, s59, s60, s61⟩ := HSC.out _ hB12)
            | (go_at_call 59; refine (put32_any w.heap.size u3 (sb u n 6) _ _ hR0.drew hZ0 (Nat.le_trans (HLN.out 6) (by decide)) (by first | exact HN.out | decide)).mono ?_; rintro e w11 ⟨v11, rfl, h11', hB11'⟩; have h11 : Row w.heap.size w11 v11 (sb u n 7) := cast_row (sb_s6 u n) h11'; have hB11 := hL0.drew.trans hB11'; have hZ11 : w.heap.size ≤ w11.heap.size := hB11.size; clear h11' hB11'; obtain ⟨s8, s9, s58, s59, s60, s61⟩ := HSC.out _ hB11))
          all_goals
            go_wp2_with fail
            go_meet
            exact ⟨cast_row (sb_s7 u n) h12, hB12⟩
        case rest =>
          have hS := hcut
          clear hcut s8 s9 s58 s59 s60 s61 hR0 hL0 hZ0
          obtain ⟨hR0, hL0⟩ := hS
          obtain ⟨s8, s9, s58, s59, s60, s61⟩ := HSC.out _ hL0
          have hZ0 := hL0.size
          go_upto_region 6 with fail
          go_cut [3] (fun v wx => Sofar w (sb u n 9) v wx)
          case first =>
            have HB := Lib.hid (bytes_lit (W := wc.drew) [32, 0] (fit_of (by decide)) (by decide))
            have hbx : Below w.heap.size w (wc.drew.alloc (.cells #[.int .u8 32, .int .u8 0] 5)) := hL0.drew.alloc hZ0 _
            have HRUN := Lib.hid (fun ty => run_bytes (W := wc.drew.alloc (.cells #[.int .u8 32, .int .u8 0] 5)) w.heap.size ty u3 (sb u n 8) (hR0.drew.below ((Below.refl _ _).alloc (Nat.le_refl _) _)) (some ⟨wc.heap.size, 0, none⟩) 2 2 [32, 0] HB.out (by have := HLN.out 8; omega) hbx.size)
            go_region_law (refine step_append_run rfl (.tmp 56) (.tmp 68) 22 rfl u3 (.slice (some ⟨wc.heap.size, 0, none⟩) 2 2) (by simp [Act.eval, Act.put]) (by simp [Act.eval, Act.put]) _ (HRUN.out _) ?_; rintro v12 w12 ⟨h12, hB12'⟩; have hB12 := hbx.trans hB12')
            all_goals
              go_wp2_with fail
              go_meet
              exact ⟨cast_row (sb_s8 u n) h12, hB12⟩
          case rest =>
            have hS := hcut
            clear hcut s8 s9 s58 s59 s60 s61 hR0 hL0 hZ0
            obtain ⟨hR0, hL0⟩ := hS
            have hZ0 := hL0.size
            go_wp2_with (first
              | (at_builtin; refine app_zeros w.heap.size rfl (.tmp 78) (.const (.int .i64 168)) rfl v13 (sb u n 11) rfl hR13 168 rfl (by have := HLN.out 11; omega) hL13.size ?_; intro v14 w14 hR14 hL14)
              | (at_builtin; refine app_bytes w.heap.size rfl (.tmp 72) (.tmp 76) rfl v12 (sb u n 10) rfl hR12 (some ⟨b, 62, none⟩) 256 256 z256 rfl (HSG.out _ hL12).2.2.2 (by have := HLN.out 10; omega) hL12.size ?_; intro v13 w13 hR13' hg13 hL13'; have hR13 : Row w.heap.size w13 v13 (sb u n 11) := cast_row (sb_s10 u n) hR13'; have hL13 := hL12.trans hL13')
              | (at_builtin; refine app_zeros w.heap.size rfl (.tmp 70) (.const (.int .i64 6)) rfl u3 (sb u n 9) rfl hR0 6 rfl (by have := HLN.out 9; omega) hZ0 ?_; intro v12 w12 hR12' hL12'; have hR12 : Row w.heap.size w12 v12 (sb u n 10) := cast_row (sb_s9 u n) hR12'; have hL12 := hL0.trans hL12'))
            go_ret
            exact ⟨_, rfl, cast_row (sb_s11 u n) hR14, hL13.trans hL14⟩
end Go.Proofs.YtfanlhkpblemgaaDoor
