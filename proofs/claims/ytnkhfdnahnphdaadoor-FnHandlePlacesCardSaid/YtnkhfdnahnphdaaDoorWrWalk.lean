/- The walk of Write on an open file. -/
import Derived.Test.YtnkhfdnahnphdaaDoorFl
import Derived.Test.YtnkhfdnahnphdaaDoorAp
import Derived.Deep.RegionHeld3
import Derived.Deep.DeepCutAuto
namespace Go.Proofs.YtnkhfdnahnphdaaDoor
open Go.ChangeShapes Go.WideShapes Go.ChangeAt Go.RowKit Go.Rd
open Go.Proofs.YtnkhfdnahnphdaaDoorW.PrintWords Go.Proofs.YtnkhfdnahnphdaaDoorW.PrintLast Go.Proofs.YtnkhfdnahnphdaaDoorW.PrintMore

theorem infoU8 : (Tryd.prog.info? 5).map (fun i => (i.zero, i.size, i.bytes)) = some (some (.int .u8 0), 1, 1) := by kernel_rfl

/-- Bytes with zeros up to a size, and cut there. -/
def sized (bs : List Int) (n : Nat) : List Int := bs.take n ++ List.replicate (n - bs.length) 0
/-- Bytes laid over others at a place, with zeros between. -/
def lay (bs : List Int) (a : Nat) (b : List Int) : List Int := sized bs a ++ b ++ bs.drop (a + b.length)

theorem set_mt (fd B : Nat) (dv : Value) (d : FD) (t : Int) (w : World) (hD : DataIs w B fd dv d) :
    Calls Tryd.prog 68 #[.pointer (some ⟨fd, 0, none⟩), .int .i64 t] w fun e w' => e = .returned (.tuple #[]) ∧ DataIs w' B fd dv { d with mt := t } ∧ Wrote (fun k => k = fd) w w' := by
  have f5 := free_of hD.1 5
  have c5 := (cell_of hD.1 5).trans rfl
  go_enter Tryd.func68, Tryd.ntmps68
  go_wp2
  go_end0
  refine ⟨rfl, ⟨Go.Rd.heap_setCell_same (o := 5) hD.1 _, own_move hD.2.1 (fun k hk => Below.heap_setCell _ _ _ _ (row_fd hD k hk)), hD.2.2⟩, wrote_set _ _ _ _⟩

theorem own_cut (Ad : Option Addr) (a n c : Nat) : (Value.slice Ad a c).ownBlock = (Value.slice Ad n c).ownBlock := by cases Ad <;> rfl
theorem bytes_none (w : World) : BytesIn w none 0 0 [] := ⟨rfl, fun _ => ⟨rfl, rfl⟩, Nat.le_refl _, Nat.zero_le _, fun x hx => (by cases hx), fun c hc => (by cases hc)⟩

set_option maxRecDepth 100000 in
set_option maxHeartbeats 4000000 in
theorem write_flat (f B fd a : Nat) (rdc : Int) (dv : Value) (d : FD) (A : Option Addr) (m c : Nat) (b : List Int) (w : World) (hH : HandleIs w f ⟨(a : Int), rdc, false, false, fd⟩) (hD : DataIs w B fd dv d) (hb : BytesIn w A m c b)
    (ha : a ≤ d.bs.length) (hge : d.bs.length ≤ m + a) (hm : m ≤ 4294967296) (hm2 : d.bs.length ≤ 4294967296) (hB : B ≤ w.heap.size) :
    Calls Tryd.prog 35 #[.pointer (some ⟨f, 0, none⟩), .slice A m c] w fun e w' => e = .returned (.tuple #[.int .i64 (m : Int), .nilIface]) ∧ Laid w w' f B fd ⟨(a : Int) + m, rdc, false, false, fd⟩ dv { d with bs := d.bs.take a ++ b, mt := 0 } := by
  obtain ⟨l1, hE⟩ : ∃ l1, d.bs.take a ++ b = l1 := ⟨_, rfl⟩
  have hl1 : l1.length = a + m := by rw [← hE]; simp [hb.len]; omega
  have hl2 : (d.bs.map (Value.int .u8)).take (a * 1) ++ b.map (Value.int .u8) = l1.map (Value.int .u8) := by rw [← hE]; simp
  have hl3 : ∀ x ∈ l1, 0 ≤ x ∧ x ≤ 255 := fun x hx => by
    rw [← hE] at hx
    rcases List.mem_append.1 hx with h | h
    · exact hD.2.2 x (List.mem_of_mem_take h)
    · exact hb.fits x h
  rw [hE]
  clear hE
  obtain ⟨Ad, cd, rfl⟩ := hD.slice
  have c0 := (cell_of hH 0).trans rfl
  have c2 := (cell_of hH 2).trans rfl
  have c3 := (cell_of hH 3).trans rfl
  have c4 := (cell_of hH 4).trans rfl
  have d1 := (cell_of hD.1 1).trans rfl
  have f0 := free_of hH 0
  have g1 := free_of hD.1 1
  have hcap : d.bs.length ≤ cd := own_cap hD.2.1
  have hac : a ≤ cd := by omega
  have hR := run_src (P := Tryd.prog) (w := w.drew) 22 22 5 B Tryd.underlying22 infoU8 (.slice Ad a cd) a _ (World.ownsRow.drew (own_take hD.2.1 ha)) A m c b (hb.below ((Below.refl _ _).drew)) (by omega) hB
  rw [own_cut Ad a d.bs.length cd] at hR
  have HR := Lib.hid hR
  have hl4 : l1.length ≤ 8589934592 := by omega
  have HL1 := Lib.hid hl1
  have HL2 := Lib.hid hl2
  have HL3 := Lib.hid hl3
  have hcs := (World.ownsRow.drew (w := w) (own_take hD.2.1 ha))
  clear hR hl1 hl2 hl3 hcs
  go_enter Tryd.func35, Tryd.ntmps35
  go_upto_region 14 with fail
  go_cut [] (fun wx => Laid w wx f B fd ⟨(a : Int), rdc, false, false, fd⟩ (.slice Ad d.bs.length cd) { d with bs := l1 })
  case first =>
    go_region_law (refine step_append_run rfl (.tmp 115) (.tmp 116) 22 rfl (.slice Ad a cd) (.slice A m c) (by simp [Act.eval, Act.put]) (by simp [Act.eval, Act.put]) _ HR.out ?_; rintro v1 w1 ⟨ho1, hg1, hat1⟩; obtain ⟨A1, c1, ev1⟩ := own_slice ho1; subst ev1; have hw1 := wrote_grown hg1; have hd1 := (hw1.block fd (lt_of_heap hD.1) (fun e => row_fd hD fd e rfl)).trans hD.1; have hh1 := hH.wrote (w := w.drew) hw1 (fun e => row_fh hD hH f e rfl); have e4 := (cell_of hh1 4).trans rfl; have e1 := (cell_of hd1 1).trans rfl; have e1f := free_of hd1 1)
    all_goals
      go_wp2_with fail
      go_meet
      exact Laid.of_drew <| laid_store (w := w.drew) (l := l1) hH hD ho1 hg1 hat1 HL1.out.symm HL2.out HL3.out
  case rest =>
    obtain ⟨dv1, hH1, hD1, hW1, hat1⟩ := hcut
    clear c0 c2 c3 c4 d1 f0 g1 HR
    obtain ⟨A1, k1, rfl⟩ := hD1.slice
    have c0 := (cell_of hH1 0).trans rfl
    have c4 := (cell_of hH1 4).trans rfl
    have d1 := (cell_of hD1.1 1).trans rfl
    have f0 := free_of hH1 0
    have g1 := free_of hD1.1 1
    have hBc : B ≤ wc.heap.size := Nat.le_trans hB hW1.size
    have hR := run_src (P := Tryd.prog) (w := wc.drew) 22 22 5 B Tryd.underlying22 infoU8 _ _ _ (World.ownsRow.drew hD1.2.1) none 0 0 [] (bytes_none _) (by show l1.length + 0 ≤ _; omega) hBc
    have HR := Lib.hid hR
    clear hR
    go_upto_region 15 with fail
    go_cut [] (fun wx => Laid wc wx f B fd ⟨(a : Int), rdc, false, false, fd⟩ (.slice A1 l1.length k1) { d with bs := l1 })
    case first =>
      go_region_law (refine step_append_run rfl (.tmp 130) (.tmp 131) 22 rfl (.slice A1 l1.length k1) (.slice none 0 0) (by simp [Act.eval]) (by simp [Act.eval]) _ HR.out ?_; rintro v1 w1 ⟨ho1, hg1, hat1⟩; obtain ⟨A2, c2, ev1⟩ := own_slice ho1; subst ev1; have hw1 := wrote_grown hg1; have hd1 := (hw1.block fd (lt_of_heap hD1.1) (fun e => row_fd hD1 fd e rfl)).trans hD1.1; have hh1 := hH1.wrote (w := wc.drew) hw1 (fun e => row_fh hD1 hH1 f e rfl); have e4 := (cell_of hh1 4).trans rfl; have e1 := (cell_of hd1 1).trans rfl; have e1f := free_of hd1 1)
      all_goals
        go_wp2_with fail
        go_meet
        exact Laid.of_drew <| laid_store (w := wc.drew) (d := { d with bs := l1 }) (l := l1) hH1 hD1 ho1 hg1 hat1 rfl (by simp) HL3.out
    case rest =>
      obtain ⟨dv2, hH2, hD2, hW2, hat2⟩ := hcut
      clear c0 c4 d1 f0 g1 HR
      have c4 := (cell_of hH2 4).trans rfl
      go_wp2_with (go_at_call 68; refine (set_mt fd B dv2 _ 0 _ hD2).mono ?_; rintro e w3 ⟨rfl, hD3, hW3⟩; have hH3 := hH2.wrote hW3 (fun e => fd_ne hD2 hH2 e.symm); have q0 := (cell_of hH3 0).trans rfl; have q0f := free_of hH3 0)
      go_ret2
      exact ⟨rfl, Laid.trans hW1 hat1 (Laid.trans hW2 hat2 (laid_last hH2 hD2 hD3 hW3 _))⟩
end Go.Proofs.YtnkhfdnahnphdaaDoor
