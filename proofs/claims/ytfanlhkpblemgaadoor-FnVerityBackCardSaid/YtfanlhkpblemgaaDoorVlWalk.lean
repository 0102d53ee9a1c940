/- FnVerityBack: a superblock is read: the walk. -/
import Derived.Test.YtfanlhkpblemgaaDoorVkWalk
namespace Go.Proofs.YtfanlhkpblemgaaDoor
open Go.RowKit Go.Rd
set_option linter.unusedVariables false
set_option linter.unusedSimpArgs false
open Go.Proofs.YtfanlhkpblemgaaDoorW.PrintWords Go.Proofs.YtfanlhkpblemgaaDoorW.PrintLast Go.Proofs.YtfanlhkpblemgaaDoorW.PrintMore

/-- A block's state. -/
def Stg (b : Nat) (L : List Value) (w wx : World) : Prop := wx.heap[b]? = some (.cells L.toArray 109 (0, 0)) ∧ Wrote (fun k => k = b) w wx
theorem Stg.drewN {b : Nat} {L : List Value} {w wx : World} (h : Stg b L w wx) (n : Nat) : Stg b L w (wx.drewN n) := ⟨h.1, h.2.drewN n⟩
theorem Stg.set {b : Nat} {L L2 : List Value} {w wx : World} (h : Stg b L w wx) (o : Nat) (v : Value) (e : L.toArray.setIfInBounds o v = L2.toArray) : Stg b L2 w (wx.setCell ⟨b, o, none⟩ v) :=
  ⟨by rw [Go.Rd.heap_setCell_same h.1, e], h.2.setCell (fun _ => rfl) v⟩
theorem Stg.set2 {b : Nat} {L L2 : List Value} {w wx : World} (h : Stg b L w wx) (o o2 : Nat) (v v2 : Value) (e : (L.toArray.setIfInBounds o v).setIfInBounds o2 v2 = L2.toArray) : Stg b L2 w ((wx.setCell ⟨b, o, none⟩ v).setCell ⟨b, o2, none⟩ v2) := by
  have h1 := Go.Rd.heap_setCell_same (o := o) h.1 v
  exact ⟨by rw [Go.Rd.heap_setCell_same h1, e], (h.2.setCell (fun _ => rfl) v).setCell (fun _ => rfl) v2⟩
theorem dropped2 {w : World} {A : Option Addr} {n c : Nat} {l : List Int} (h : BytesIn w A n c l) (k : Nat) (hk : k ≤ n) (m : Nat) (hm : n - k = m) :
    ∃ A', (∀ W : World, (Instr.slice 22 (.slice A n c) (some (.int .i64 (k : Int))) none none).run Tryd.prog W = .ok (.slice A' m (c - k)) W) ∧ ∀ W, BytesIn W A n c l → BytesIn W A' m (c - k) (l.drop k) := by
  subst hm
  obtain ⟨A', hr, hb⟩ := BytesIn.dropped h k hk
  refine ⟨A', hr, fun W hW => ?_⟩
  obtain ⟨A2, hr2, hb2⟩ := BytesIn.dropped hW k hk
  have e := (hr W).symm.trans (hr2 W)
  injection e with e1 _
  injection e1 with e2 _ _
  subst e2
  exact hb2
def GPost (x : Int) (b : Nat) (L : List Value) (w : World) (e : Ending) (w' : World) : Prop := e = .returned (.int .u32 x) ∧ Stg b L w w'
theorem Stg.free {b : Nat} {L : List Value} {w wx : World} (h : Stg b L w wx) (o : Nat) : wx.frozen? ⟨b, o, none⟩ = false := free_of h.1 o
theorem Stg.cell {b : Nat} {L : List Value} {w wx : World} (h : Stg b L w wx) (o : Nat) (v : Value) (e : L[o]? = some v) : wx.cell? ⟨b, o, none⟩ = some v := by
  rw [cell_of h.1, ← e]; simp
/-- A number that is read, at any state of the block. -/
theorem get_at (x : Int) (hx : Small x) (b : Nat) (L : List Value) (w : World) (A' : Option Addr) (m c' : Nat) (l r : List Int) (hb : ∀ W, Stg b L w W → BytesIn W A' m c' l) (hl : l = le32 x ++ r) (W : World) (hW : Stg b L w W) :
    Calls Tryd.prog 60 #[.slice A' m c'] W (GPost x b L w) :=
  (get32_any x hx r A' m c' W l (hb W hW) hl).mono fun e w' ⟨h1, ⟨⟨k, h2⟩⟩⟩ => ⟨h1, h2 ▸ hW.drewN k⟩
/-- A part that is copied, at any state of the block. -/
theorem cp_at {b : Nat} {L L2 : List Value} {w : World} {A' : Option Addr} {m c' : Nat} {l : List Int} (hb : ∀ W, Stg b L w W → BytesIn W A' m c' l) (off k : Nat) (hk : k ≤ m) (h0 : 0 < k) (hfit : off + k ≤ L.toArray.size) (e : splice L off ((l.take k).map (Value.int .u8)) = L2) (W : World) (hW : Stg b L w W) (ty : TypeId) :
    ∃ v' w', (Builtin.copy_ #[22, 22] ty #[.slice (some ⟨b, off, none⟩) k k, .slice A' m c']).run Tryd.prog W = .ok v' w' ∧ (v' = .int .i64 (k : Int) ∧ Stg b L2 w w') := by
  obtain ⟨v', w', h1, h2, h3, h4⟩ := cp_run (W := W) ty b off k k A' m c' l (hb W hW) hk h0 L.toArray 109 hW.1 hfit
  refine ⟨v', w', h1, h2, ?_, hW.2.trans h4⟩
  rw [h3]
  subst e
  rfl
theorem or_small : (List.range 301).all (fun n => bits .or .u64 (n : Int) 0 == (n : Int)) = true := by kernel_rfl
theorem or_zero (n : Int) (h : 0 ≤ n ∧ n ≤ 300) : bits .or .u64 n 0 = n := by
  have h2 := List.all_eq_true.1 or_small n.toNat (List.mem_range.2 (by omega))
  rw [show ((n.toNat : Nat) : Int) = n by omega] at h2
  simpa using h2
def ParsePost (b : Nat) (a : Nat → Int) (n : Int) (w : World) (e : Ending) (w' : World) : Prop := e = .returned (.tuple #[]) ∧ SbIs w' b (uidOf a) n ∧ Wrote (fun k => k = b) w w'
set_option maxRecDepth 100000 in
set_option maxHeartbeats 8000000 in
theorem parse_any (b : Nat) (a : Nat → Int) (n : Int) (r : List Int) (A : Option Addr) (c : Nat) (l : List Int) (w : World) (hg : w.heap[b]? = some (.cells pz.toArray 109 (0, 0))) (hB : BytesIn w A 4096 c l) (hl : l = superB (uidOf a) n ++ r) (hne : ∀ x, A = some x → x.block ≠ b) (hn : 0 ≤ n ∧ n ≤ 300) :
    Calls Tryd.prog 50 #[.pointer (some ⟨b, 0, none⟩), .slice A 4096 c] w (ParsePost b a n w) := by
  obtain ⟨g, o, rfl, hgl, hfx⟩ := hB.form (by decide)
  clear hfx
  have hb := fun (wx : World) (L : List Value) (h : Stg b L w wx) => BytesIn.wrote hB h.2 hne
  have HB := Lib.hid hb
  have hS : Stg b pz w w := ⟨hg, Wrote.refl _ _⟩
  have HN := Lib.hid hn
  have hor := or_zero n hn
  have hwn : IntKind.u64.wrap n = n := by
    have e : IntKind.u64.wrap n = n % 18446744073709551616 := by simp [IntKind.wrap, IntKind.bits, IntKind.signed]
    rw [e]
    omega
  have hw0 : IntKind.u64.wrap 0 = 0 := by decide
  have hn1 := hn.1
  have hn2 := hn.2
  subst hl
  clear hb hg hne hn
  go_enter Tryd.func50, Tryd.ntmps50
  go_wp2_with (refine cp_bytes rfl (.tmp 7) (.tmp 8) rfl b 0 8 8 rfl (some ⟨g, o, none⟩) 4096 c _ rfl hB (by decide) (by decide) pz.toArray 109 hS.1 (by rw [pz_size]; decide) ?_; intro w1 hg1 hw1)
  rw [sup_0, pz_sig] at hg1
  have hS0 : Stg b p1 w w1 := ⟨hg1, hw1⟩
  clear hg1 hw1 hS hB hgl
  go_cut [10] (fun _ wx => Stg b p2 w wx)
  case first =>
    have hSd : Stg b p1 w w1.drew := hS0.drewN 1
    obtain ⟨A8, hs8, hb8⟩ := dropped2 (HB.out _ _ hS0) 8 (by decide) 4088 rfl
    have hs8' : ∀ W : World, (Instr.slice 22 (.slice (some ⟨g, o, none⟩) 4096 c) (some (.int .i64 8)) none none).run Tryd.prog W = .ok (.slice A8 4088 (c - 8)) W := hs8
    obtain ⟨A12, hs12, hb12⟩ := dropped2 (HB.out _ _ hS0) 12 (by decide) 4084 rfl
    have hs12' : ∀ W : World, (Instr.slice 22 (.slice (some ⟨g, o, none⟩) 4096 c) (some (.int .i64 12)) none none).run Tryd.prog W = .ok (.slice A12 4084 (c - 12)) W := hs12
    have H8 := Lib.hid (get_at 1 (.inl ⟨by decide, by decide⟩) b p1 w A8 4088 (c - 8) _ _ (fun W hW => hb8 W (HB.out W p1 hW)) (sup_8 a n r))
    have H12 := Lib.hid (get_at 1 (.inl ⟨by decide, by decide⟩) b p1 w A12 4084 (c - 12) _ _ (fun W hW => hb12 W (HB.out W p1 hW)) (sup_12 a n r))
    clear hs8 hs12 hb8 hb12
    go_region_law (first
      | (go_simp; go_at_call 60; refine (H12.out _ hx1).mono ?_; rintro e w3 ⟨rfl, hx2⟩; have f8 := hx2.free 8; have c8 := hx2.cell 8 _ rfl; have f9 := hx2.free 9; have c9 := hx2.cell 9 _ rfl)
      | (go_simp; go_at_call 60; refine (H8.out _ hSd).mono ?_; rintro e w2 ⟨rfl, hx1⟩))
    all_goals
      go_wp2_with fail
      go_meet
      exact hx2.set2 8 9 _ _ p1_set
  case rest =>
    have hS1 := hcut
    clear hcut hS0
    have hS0 := hS1
    clear hS1
    go_upto_region 2 with fail
    go_cut [22] (fun _ wx => Stg b (p3 a) w wx)
    case first =>
      have hSd : Stg b p2 w wc.drew := hS0.drewN 1
      obtain ⟨A16, hs16, hb16⟩ := dropped2 (HB.out _ _ hS0) 16 (by decide) 4080 rfl
      have hs16' : ∀ W : World, (Instr.slice 22 (.slice (some ⟨g, o, none⟩) 4096 c) (some (.int .i64 16)) none none).run Tryd.prog W = .ok (.slice A16 4080 (c - 16)) W := hs16
      have HC := Lib.hid (cp_at (fun W hW => hb16 W (HB.out W p2 hW)) 10 16 (by decide) (by decide) (by rw [p2_size]; decide) (by rw [sup_16 a n r] <;> exact p2_uid a) _ hSd)
      clear hs16 hb16
      go_region_law (refine step_copy rfl (.tmp 25) (.tmp 27) 22 22 rfl (.slice (some ⟨b, 10, none⟩) 16 16) (.slice A16 4080 (c - 16)) (by simp [Act.eval, Act.put]) (by simp [Act.eval, Act.put]) _ (HC.out _) ?_; rintro v3 w3 ⟨rfl, hx2⟩)
      all_goals
        go_wp2_with fail
        go_meet
        exact hx2
    case rest =>
      have hS1 := hcut
      clear hcut hS0
      have hS0 := hS1
      clear hS1
      go_upto_region 3 with fail
      go_cut [29] (fun _ wx => Stg b (p4 a) w wx)
      case first =>
        have hSd : Stg b (p3 a) w wc.drew := hS0.drewN 1
        obtain ⟨A32, hs32, hb32⟩ := dropped2 (HB.out _ _ hS0) 32 (by decide) 4064 rfl
        have hs32' : ∀ W : World, (Instr.slice 22 (.slice (some ⟨g, o, none⟩) 4096 c) (some (.int .i64 32)) none none).run Tryd.prog W = .ok (.slice A32 4064 (c - 32)) W := hs32
        have HC := Lib.hid (cp_at (fun W hW => hb32 W (HB.out W (p3 a) hW)) 26 32 (by decide) (by decide) (by rw [p3_size]; decide) (by rw [sup_32 a n r] <;> exact p3_alg a) _ hSd)
        clear hs32 hb32
        go_region_law (refine step_copy rfl (.tmp 32) (.tmp 34) 22 22 rfl (.slice (some ⟨b, 26, none⟩) 32 32) (.slice A32 4064 (c - 32)) (by simp [Act.eval, Act.put]) (by simp [Act.eval, Act.put]) _ (HC.out _) ?_; rintro v3 w3 ⟨rfl, hx2⟩)
        all_goals
          go_wp2_with fail
          go_meet
          exact hx2
      case rest =>
        have hS1 := hcut
        clear hcut hS0
        have hS0 := hS1
        clear hS1
        go_upto_region 4 with fail
        go_cut [36] (fun _ wx => Stg b (p5 a) w wx)
        case first =>
          have hSd : Stg b (p4 a) w wc.drew := hS0.drewN 1
          obtain ⟨A64, hs64, hb64⟩ := dropped2 (HB.out _ _ hS0) 64 (by decide) 4032 rfl
          have hs64' : ∀ W : World, (Instr.slice 22 (.slice (some ⟨g, o, none⟩) 4096 c) (some (.int .i64 64)) none none).run Tryd.prog W = .ok (.slice A64 4032 (c - 64)) W := hs64
          obtain ⟨A68, hs68, hb68⟩ := dropped2 (HB.out _ _ hS0) 68 (by decide) 4028 rfl
          have hs68' : ∀ W : World, (Instr.slice 22 (.slice (some ⟨g, o, none⟩) 4096 c) (some (.int .i64 68)) none none).run Tryd.prog W = .ok (.slice A68 4028 (c - 68)) W := hs68
          have H64 := Lib.hid (get_at 4096 (.inr rfl) b (p4 a) w A64 4032 (c - 64) _ _ (fun W hW => hb64 W (HB.out W (p4 a) hW)) (sup_64 a n r))
          have H68 := Lib.hid (get_at 4096 (.inr rfl) b (p4 a) w A68 4028 (c - 68) _ _ (fun W hW => hb68 W (HB.out W (p4 a) hW)) (sup_68 a n r))
          clear hs64 hs68 hb64 hb68
          go_region_law (first
            | (go_simp; go_at_call 60; refine (H68.out _ hx1).mono ?_; rintro e w3 ⟨rfl, hx2⟩; have f58 := hx2.free 58; have c58 := hx2.cell 58 _ rfl; have f59 := hx2.free 59; have c59 := hx2.cell 59 _ rfl)
            | (go_simp; go_at_call 60; refine (H64.out _ hSd).mono ?_; rintro e w2 ⟨rfl, hx1⟩))
          all_goals
            go_wp2_with fail
            go_meet
            exact hx2.set2 58 59 _ _ (p4_set a)
        case rest =>
          have hS1 := hcut
          clear hcut hS0
          have hS0 := hS1
          clear hS1
          go_upto_region 5 with fail
          go_cut [48] (fun _ wx => Stg b (p6 a n) w wx)
          case first =>
            have hSd : Stg b (p5 a) w wc.drew := hS0.drewN 1
            obtain ⟨A72, hs72, hb72⟩ := dropped2 (HB.out _ _ hS0) 72 (by decide) 4024 rfl
            have hs72' : ∀ W : World, (Instr.slice 22 (.slice (some ⟨g, o, none⟩) 4096 c) (some (.int .i64 72)) none none).run Tryd.prog W = .ok (.slice A72 4024 (c - 72)) W := hs72
            obtain ⟨A76, hs76, hb76⟩ := dropped2 (HB.out _ _ hS0) 76 (by decide) 4020 rfl
            have hs76' : ∀ W : World, (Instr.slice 22 (.slice (some ⟨g, o, none⟩) 4096 c) (some (.int .i64 76)) none none).run Tryd.prog W = .ok (.slice A76 4020 (c - 76)) W := hs76
            have H72 := Lib.hid (get_at n (.inl HN.out) b (p5 a) w A72 4024 (c - 72) _ _ (fun W hW => hb72 W (HB.out W (p5 a) hW)) (sup_72 a n r))
            have H76 := Lib.hid (get_at 0 (.inl ⟨by decide, by decide⟩) b (p5 a) w A76 4020 (c - 76) _ _ (fun W hW => hb76 W (HB.out W (p5 a) hW)) (sup_76 a n r))
            clear hs72 hs76 hb72 hb76
            go_region_law (first
              | (go_simp; go_at_call 60; refine (H76.out _ hx1).mono ?_; rintro e w3 ⟨rfl, hx2⟩; have f60 := hx2.free 60; have c60 := hx2.cell 60 _ rfl)
              | (go_simp; go_at_call 60; refine (H72.out _ hSd).mono ?_; rintro e w2 ⟨rfl, hx1⟩))
            all_goals
              go_wp2_with fail
              go_meet
              exact hx2.set 60 _ (p5_set a n)
          case rest =>
            have hS1 := hcut
            clear hcut hS0
            have hS0 := hS1
            clear hS1
            go_upto_region 6 with fail
            go_cut [61] (fun _ wx => Stg b (p7 a n) w wx)
            case first =>
              have hSd : Stg b (p6 a n) w wc.drew := hS0.drewN 1
              have hby := HB.out _ _ hSd
              have x80 := hby.cells _ rfl 80 (.int .u8 32) (by rw [List.getElem?_map, sup_80]; rfl)
              have x81 := hby.cells _ rfl 81 (.int .u8 0) (by rw [List.getElem?_map, sup_81]; rfl)
              rw [addr_add] at x80 x81
              have f61 := hSd.free 61
              have c61 := hSd.cell 61 _ rfl
              go_region_law (fail)
              all_goals
                go_wp2_with fail
                go_meet
                exact hSd.set 61 _ (p6_set a n)
            case rest =>
              have hS1 := hcut
              clear hcut hS0
              have hS0 := hS1
              clear hS1
              go_upto_region 7 with fail
              have hSd : Stg b (p7 a n) w wc.drew := hS0.drewN 1
              obtain ⟨A88, hs88, hb88⟩ := dropped2 (HB.out _ _ hS0) 88 (by decide) 4008 rfl
              have hs88' : ∀ W : World, (Instr.slice 22 (.slice (some ⟨g, o, none⟩) 4096 c) (some (.int .i64 88)) none none).run Tryd.prog W = .ok (.slice A88 4008 (c - 88)) W := hs88
              have HC := Lib.hid (cp_at (fun W hW => hb88 W (HB.out W (p7 a n) hW)) 62 256 (by decide) (by decide) (by rw [p7_size]; decide) (by rw [sup_88 a n r] <;> exact p7_salt a n) _ hSd)
              clear hs88 hb88
              go_region_law (refine step_copy rfl (.tmp 77) (.tmp 79) 22 22 rfl (.slice (some ⟨b, 62, none⟩) 256 256) (.slice A88 4008 (c - 88)) (by simp [Act.eval, Act.put]) (by simp [Act.eval, Act.put]) _ (HC.out _) ?_; rintro v3 w3 ⟨rfl, hx2⟩)
              all_goals
                go_wp2_with fail
                go_end0
                exact ⟨rfl, hx2⟩
end Go.Proofs.YtfanlhkpblemgaaDoor
