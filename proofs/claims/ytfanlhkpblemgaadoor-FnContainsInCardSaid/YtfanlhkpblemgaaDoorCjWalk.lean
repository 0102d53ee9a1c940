/- zzReadAtLeast: it reads as many bytes as the buffer takes, or what is left. -/
import Derived.Test.YtfanlhkpblemgaaDoorCiRead
namespace Go.Proofs.YtfanlhkpblemgaaDoor
open Go.ChangeShapes Go.WideShapes Go.ChangeAt Go.RowKit Go.Rd
open Go.Proofs.YtfanlhkpblemgaaDoorW.PrintWords Go.Proofs.YtfanlhkpblemgaaDoorW.PrintLast Go.Proofs.YtfanlhkpblemgaaDoorW.PrintMore
set_option linter.unusedVariables false

theorem comp119 : (Tryd.prog.info? 119).map (·.comparable) = some true := by kernel_rfl
theorem size121 : (Tryd.prog.info? 121).map (fun i => decide (i.size ≠ 0)) = some true := by kernel_rfl
theorem err_eq (W : World) (a : Addr) : (binOp .eql 61 (.iface 119 (.pointer (some a))) (.iface 119 (.pointer (some a)))).run Tryd.prog W = .ok (.bool true) W := by
  obtain ⟨i, hi, hcmp⟩ := Option.map_eq_some_iff.1 comp119
  obtain ⟨j, hj, _⟩ := Option.map_eq_some_iff.1 size121
  exact run_eql_iface_ptr_same W a Tryd.underlying61 Tryd.underlying119 hi hcmp hj
theorem err_nil (W : World) (v : Value) : (binOp .eql 61 (.iface 119 v) .nilIface).run Tryd.prog W = .ok (.bool false) W := by kernel_rfl
/-- Behind n bytes that were read. -/
def ReadPost (w : World) (g o f B fd a n : Nat) (cur : Array Value) (t : TypeId) (rdc : Int) (ro : Bool) (dv : Value) (d : FD) (w' : World) : Prop :=
  HandleIs w' f ⟨(a : Int) + (n : Int), rdc, false, ro, fd⟩ ∧ DataIs w' B fd dv d ∧
    w'.heap[g]? = some (.cells (splice cur.toList o (((d.bs.drop a).take n).map (Value.int .u8))).toArray t (0, 0)) ∧ Wrote (fun k => k = f ∨ k = g) w w'
/-- What is read, and the error behind it. -/
def AtLeast (w : World) (g o f B fd a n m : Nat) (cur : Array Value) (t : TypeId) (rdc : Int) (ro : Bool) (dv : Value) (d : FD) (e : Ending) (w' : World) : Prop :=
  ∃ E, e = .returned (.tuple #[.int .i64 (n : Int), E]) ∧ ((n = m ∧ E = .nilIface) ∨ (n < m ∧ ∃ p, E = .iface 119 p)) ∧ ReadPost w g o f B fd a n cur t rdc ro dv d w'
/-- The state of the loop. -/
def AlRel (w : World) (g o f B fd a n m : Nat) (cur : Array Value) (t : TypeId) (rdc : Int) (ro : Bool) (dv : Value) (d : FD) (E8 v6 v7 : Value) (wr : World) : Prop :=
  (v6 = .int .i64 0 ∧ v7 = .nilIface ∧ wr = w) ∨ (v6 = .int .i64 (n : Int) ∧ v7 = .nilIface ∧ 0 < n ∧ ReadPost w g o f B fd a n cur t rdc ro dv d wr) ∨ (v6 = .int .i64 (n : Int) ∧ v7 = E8 ∧ n < m ∧ ReadPost w g o f B fd a n cur t rdc ro dv d wr)
def alMeas (m : Nat) (v6 v7 : Value) : Nat := match v7 with | .nilIface => m + 1 - (intOf v6).toNat | _ => 0
theorem ReadPost.drewN {w w' : World} {g o f B fd a n : Nat} {cur : Array Value} {t : TypeId} {rdc : Int} {ro : Bool} {dv : Value} {d : FD} (h : ReadPost w g o f B fd a n cur t rdc ro dv d w') (k : Nat) : ReadPost w g o f B fd a n cur t rdc ro dv d (w'.drewN k) := by
  obtain ⟨h1, h2, h3, h4⟩ := h
  exact ⟨h1, ⟨h2.1, own_move h2.2.1 (fun _ _ => rfl), h2.2.2⟩, h3, h4.drewN k⟩

set_option maxRecDepth 100000 in
set_option maxHeartbeats 2000000 in
theorem atLeast_any (g o m c : Nat) (cur : Array Value) (t : TypeId) (f B fd a n : Nat) (rdc : Int) (ro : Bool) (dv : Value) (d : FD) (w : World) (p8 p9 : Addr) (s8 : w.cell? ⟨8, 0, none⟩ = some (.iface 119 (.pointer (some p8)))) (s9 : w.cell? ⟨9, 0, none⟩ = some (.iface 119 (.pointer (some p9))))
    (hlow : 9 < w.heap.size ∧ 9 < f ∧ 9 < g) (hG : w.heap[g]? = some (.cells cur t (0, 0))) (hgf : g ≠ f) (hgd : g ≠ fd) (hgr : ∀ k, dv.ownBlock = some k → k ≠ g) (hfit : o + m ≤ cur.size)
    (hH : HandleIs w f ⟨(a : Int), rdc, false, ro, fd⟩) (hD : DataIs w B fd dv d) (ha : a ≤ d.bs.length) (h0 : 0 < m) (hmc : m ≤ c) (hn : n = min m (d.bs.length - a)) (hm : c ≤ 4294967296) (hl : d.bs.length ≤ 4294967296) :
    Calls Tryd.prog 53 #[.pointer (some ⟨f, 0, none⟩), .slice (some ⟨g, o, none⟩) m c, .int .i64 (m : Int)] w (AtLeast w g o f B fd a n m cur t rdc ro dv d) := by
  go_enter Tryd.func53, Tryd.ntmps53
  go_wp2_with fail
  go_loopw [6, 7] (fun v6 v7 wr => AlRel w g o f B fd a n m cur t rdc ro dv d (.iface 119 (.pointer (some p8))) v6 v7 wr) (fun v6 v7 _ => alMeas m v6 v7)
  case atStart => exact .inl ⟨rfl, rfl, rfl⟩
  case round =>
    have HN := Lib.hid hn
    clear hn
    rcases hrel with ⟨rfl, rfl, rfl⟩ | ⟨rfl, rfl, hn0, hp⟩ | ⟨rfl, rfl, hnm, hp⟩
    · by_cases hal : a < d.bs.length
      · have hn0 : 0 < n := by have := HN.out; omega
        have hnm : n ≤ m := by have := HN.out; omega
        go_wp2_with fail
        refine (read_some g o m c cur t f B fd a n rdc ro dv d _ hG hgf hgd hgr hfit hH hD ha (.inr hal) HN.out (by omega) hl).mono ?_
        rintro e w1 ⟨rfl, h1, h2, h3, h4⟩
        have hp : ReadPost wr g o f B fd a n cur t rdc ro dv d w1 := ⟨h1, h2, h3, h4⟩
        clear h1 h2 h3 h4
        go_wp2_with fail
        go_roundw
        case rel => exact .inr (.inl ⟨rfl, rfl, hn0, hp⟩)
        case measure => simp [intOf, alMeas]; omega
      · obtain rfl : a = d.bs.length := by omega
        obtain rfl : n = 0 := by have := HN.out; omega
        go_wp2_with fail
        refine (read_end (some ⟨g, o, none⟩) m c f B fd rdc ro _ dv d _ s8 hH hD h0 (by omega) hl).mono ?_
        rintro e w1 ⟨rfl, k, rfl⟩
        have hp : ReadPost wr g o f B fd d.bs.length 0 cur t rdc ro dv d (wr.drewN k) := by
          refine ReadPost.drewN ⟨by simpa using hH, hD, ?_, Wrote.refl _ _⟩ k
          rw [hG]; simp [splice]
        go_wp2_with fail
        go_roundw
        case rel => exact .inr (.inr ⟨rfl, rfl, h0, hp⟩)
        case measure => simp [intOf, alMeas]
    · have hnm : n ≤ m := by have := HN.out; omega
      by_cases hlt : n < m
      · have e1 : a + n = d.bs.length := by have := HN.out; omega
        obtain ⟨p1, p2, p3, p4⟩ := id hp
        have s8' := (p4.block 8 (by omega) (by omega))
        have hE : (a : Int) + (n : Int) = (d.bs.length : Int) := by omega
        rw [hE] at p1
        have HP := Lib.hid hp
        have HE := Lib.hid hE
        clear hp hE
        have s8w : wr.cell? ⟨8, 0, none⟩ = some (.iface 119 (.pointer (some p8))) := by
          rw [← s8]; simp only [World.cell?, s8']
        clear s8'
        go_wp2_with fail
        refine (read_end (some ⟨g, o + n, none⟩) (m - n) (c - n) f B fd rdc ro _ dv d _ s8w p1 p2 (by omega) (by omega) hl).mono ?_
        rintro e w1 ⟨rfl, k, rfl⟩
        have hp2 := HP.out.drewN k
        have HP2 := Lib.hid hp2
        clear hp2 p1 p2 p3 p4 s8w
        go_wp2_with fail
        go_roundw
        case rel => exact .inr (.inr ⟨rfl, rfl, hlt, HP2.out⟩)
        case measure => simp [intOf, alMeas]; omega
      · obtain rfl : n = m := by omega
        go_wp2_with fail
        go_ret2
        exact ⟨_, rfl, .inl ⟨rfl, rfl⟩, hp⟩
    · obtain ⟨p1, p2, p3, p4⟩ := id hp
      have s8' := (p4.block 8 (by omega) (by omega))
      have s9' := (p4.block 9 (by omega) (by omega))
      have s8w : wr.cell? ⟨8, 0, none⟩ = some (.iface 119 (.pointer (some p8))) := by
        rw [← s8]; simp only [World.cell?, s8']
      have s9w : wr.cell? ⟨9, 0, none⟩ = some (.iface 119 (.pointer (some p9))) := by
        rw [← s9]; simp only [World.cell?, s9']
      have q1 := fun W => err_nil W (.pointer (some p8))
      have q2 := fun W => err_eq W p8
      have HP := Lib.hid hp
      clear hp s8' s9' s8 s9 p1 p2 p3 p4
      by_cases h0 : 0 < n
      · go_wp2_with fail
        go_ret2
        exact ⟨_, rfl, .inr ⟨hnm, _, rfl⟩, HP.out⟩
      · obtain rfl : n = 0 := by omega
        go_wp2_with fail
        go_ret2
        exact ⟨_, rfl, .inr ⟨hnm, _, rfl⟩, HP.out⟩
end Go.Proofs.YtfanlhkpblemgaaDoor
