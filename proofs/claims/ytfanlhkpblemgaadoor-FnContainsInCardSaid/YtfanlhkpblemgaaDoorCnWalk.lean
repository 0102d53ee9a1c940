/- readerContainsAny: what it answers. -/
import Derived.Test.YtfanlhkpblemgaaDoorCmWalk
import Derived.Deep.DeepCutAuto
import Derived.Deep.CutBlock
namespace Go.Proofs.YtfanlhkpblemgaaDoor
open Go.ChangeShapes Go.WideShapes Go.ChangeAt Go.RowKit Go.Rd
open Go.Proofs.YtfanlhkpblemgaaDoorW.PrintWords Go.Proofs.YtfanlhkpblemgaaDoorW.PrintLast Go.Proofs.YtfanlhkpblemgaaDoorW.PrintMore
set_option linter.unusedVariables false

theorem made_zeros (m : Nat) : (madeCells (Value.int .u8 0).cells m).toList = (List.replicate m (0 : Int)).map (Value.int .u8) := by
  rw [show (Value.int .u8 0).cells = #[Value.int .u8 0] from rfl, toList_madeCells_one, List.map_replicate]
/-- Bytes of a row that is known whole. -/
theorem bytes_cells {w : World} {g : Nat} {Buf : List Int} {t : TypeId} (hg : w.heap[g]? = some (.cells (Buf.map (Value.int .u8)).toArray t (0, 0))) (hf : ∀ c ∈ Buf, 0 ≤ c ∧ c ≤ 255) (o n c : Nat) (h : o + n ≤ Buf.length) (hc : n ≤ c) (hm : c ≤ maxLen) : BytesIn w (some ⟨g, o, none⟩) n c ((Buf.drop o).take n) := by
  refine ⟨by simp; omega, fun e => by simp at e, hc, hm, fun x e j v hv => ?_, fun x hx => hf x (List.mem_of_mem_drop (List.mem_of_mem_take hx))⟩
  cases e
  have hj : j < n := by
    have := (List.getElem?_eq_some_iff.1 hv).1
    simp at this; omega
  rw [addr_add, cell_of hg]
  simp only [List.getElem?_map, List.getElem?_take_of_lt hj, List.getElem?_drop, Option.map_eq_some_iff] at hv
  obtain ⟨y, hy, rfl⟩ := hv
  simp [hy]
theorem cells_splice (Buf l : List Int) (o : Nat) : (splice (Buf.map (Value.int .u8)).toArray.toList o (l.map (Value.int .u8))).toArray = ((splice Buf o l).map (Value.int .u8)).toArray := by
  rw [List.toList_toArray, splice_map]
theorem splice_fits {Buf l : List Int} {o : Nat} (h1 : ∀ c ∈ Buf, 0 ≤ c ∧ c ≤ 255) (h2 : ∀ c ∈ l, 0 ≤ c ∧ c ≤ 255) : ∀ c ∈ splice Buf o l, 0 ≤ c ∧ c ≤ 255 := by
  intro c hc
  unfold splice at hc
  simp only [List.mem_append] at hc
  rcases hc with h | h | h
  · exact h1 c (List.mem_of_mem_take h)
  · exact h2 c h
  · exact h1 c (List.mem_of_mem_drop h)
theorem part_fits {D : List Int} (h : ∀ c ∈ D, 0 ≤ c ∧ c ≤ 255) (a n : Nat) : ∀ c ∈ (D.drop a).take n, 0 ≤ c ∧ c ≤ 255 := fun c hc => h c (List.mem_of_mem_drop (List.mem_of_mem_take hc))
theorem err_neq (W : World) (v : Value) : (binOp .neq 61 (.iface 119 v) .nilIface).run Tryd.prog W = .ok (.bool true) W := by kernel_rfl
theorem nil_neq (W : World) : (binOp .neq 61 .nilIface .nilIface).run Tryd.prog W = .ok (.bool false) W := by kernel_rfl
/-- All blocks that were there are as they were, but one. -/
def SameBut (f : Nat) (w w' : World) : Prop := ∀ k, k < w.heap.size → k ≠ f → w'.heap[k]? = w.heap[k]?
theorem same_cell {f : Nat} {w w' : World} (h : SameBut f w w') {b o : Nat} {v : Value} (hc : w.cell? ⟨b, o, none⟩ = some v) (hb : b ≠ f) : w'.cell? ⟨b, o, none⟩ = some v := by
  have := h b (cell_lt hc) hb
  rw [← hc]; simp only [World.cell?, this]
theorem not_handle {w : World} {f : Nat} {hx : FH} (hh : HandleIs w f hx) {b o : Nat} {v : Value} (hc : w.cell? ⟨b, o, none⟩ = some v) (hv : (∃ A n c, v = .slice A n c) ∨ ∃ n, v = .int .u8 n) : b ≠ f := by
  rintro rfl
  rw [cell_of hh] at hc
  match o, hc with
  | 0, hc => simp at hc; subst hc; rcases hv with ⟨_, _, _, h⟩ | ⟨_, h⟩ <;> cases h
  | 1, hc => simp at hc; subst hc; rcases hv with ⟨_, _, _, h⟩ | ⟨_, h⟩ <;> cases h
  | 2, hc => simp at hc; subst hc; rcases hv with ⟨_, _, _, h⟩ | ⟨_, h⟩ <;> cases h
  | 3, hc => simp at hc; subst hc; rcases hv with ⟨_, _, _, h⟩ | ⟨_, h⟩ <;> cases h
  | 4, hc => simp at hc; subst hc; rcases hv with ⟨_, _, _, h⟩ | ⟨_, h⟩ <;> cases h
  | o + 5, hc => simp at hc
theorem bytes_same {f : Nat} {w w' : World} {hx : FH} (hh : HandleIs w f hx) (hs : SameBut f w w') {A : Option Addr} {n c : Nat} {l : List Int} (h : BytesIn w A n c l) : BytesIn w' A n c l := by
  refine ⟨h.len, h.nil, h.le, h.max, fun x e j u hu => ?_, h.fits⟩
  have hc := h.cells x e j u hu
  obtain ⟨b, o, sp⟩ := x
  have hsp := spot_none hc
  have e2 : (⟨b, o, sp⟩ : Addr).add j = ⟨((⟨b, o, sp⟩ : Addr).add j).block, ((⟨b, o, sp⟩ : Addr).add j).off, none⟩ := by rw [← hsp]
  rw [e2] at hc ⊢
  refine same_cell hs hc (not_handle hh hc (.inr ?_))
  simp only [List.getElem?_map, Option.map_eq_some_iff] at hu
  obtain ⟨y, _, rfl⟩ := hu
  exact ⟨y, rfl⟩
/-- The greatest length. -/
def mx : List (List Int) → Nat
  | [] => 0
  | s :: L => max s.length (mx L)
theorem mx_snoc (L : List (List Int)) (s : List Int) : mx (L ++ [s]) = max (mx L) s.length := by
  induction L with
  | nil => simp [mx]
  | cons x L ih => simp only [List.cons_append, mx, ih]; omega
theorem le_mx {L : List (List Int)} {s : List Int} (h : s ∈ L) : s.length ≤ mx L := by
  induction L with
  | nil => cases h
  | cons x L ih =>
    simp only [mx]
    rcases List.mem_cons.1 h with rfl | h
    · omega
    · have := ih h; omega
theorem mx_le {L : List (List Int)} {b : Nat} (h : ∀ s ∈ L, s.length ≤ b) : mx L ≤ b := by
  induction L with
  | nil => simp [mx]
  | cons x L ih =>
    simp only [mx]
    have h1 := h x (by simp)
    have h2 := ih (fun s hs => h s (by simp [hs]))
    omega
theorem mx_take (L : List (List Int)) (k : Nat) (hk : k < L.length) : mx (L.take (k + 1)) = max (mx (L.take k)) (L[k]).length := by
  rw [List.take_succ_eq_append_getElem hk, mx_snoc]
/-- The answer of readerContainsAny. -/
def Says (D : List Int) (L : List (List Int)) (r : Bool) : Prop := ((∃ s ∈ L, s ≠ [] ∧ Occ (D.map toU) (s.map toU)) → r = true) ∧ ((∀ s ∈ L, s = []) → r = false)
theorem says_none {D : List Int} {L : List (List Int)} (h : mx L = 0) : Says D L false := by
  refine ⟨?_, fun _ => rfl⟩
  rintro ⟨s, hs, hne, _⟩
  have := le_mx hs
  exact absurd (List.eq_nil_of_length_eq_zero (by omega)) hne
theorem says_yes {D : List Int} {L : List (List Int)} (h : 0 < mx L) : Says D L true := by
  refine ⟨fun _ => rfl, fun hall => ?_⟩
  have : mx L ≤ 0 := mx_le (fun s hs => by rw [hall s hs]; simp)
  omega
abbrev mapU (L : List (List Int)) : List (List UInt8) := L.map (·.map toU)
theorem says_no {D : List Int} {L : List (List Int)} (h : NoOcc (D.map toU) (mapU L) D.length) : Says D L false := by
  refine ⟨?_, fun _ => rfl⟩
  rintro ⟨s, hs, hne, ho⟩
  rw [← List.length_map (f := toU)] at h
  exact absurd ho (noOcc_end h _ (List.mem_map.2 ⟨s, hs, rfl⟩) (by simpa using hne))
/-- The end of readerContainsAny: new memory, and the handle written. -/
def ReaderPost (D : List Int) (L : List (List Int)) (f : Nat) (w : World) (e : Ending) (w' : World) : Prop := ∃ r, e = .returned (.bool r) ∧ Says D L r ∧ Wrote (fun k => k = f) w w'
/-- The state at the head of the great loop. -/
def BigRel (w1 : World) (g f B fd h : Nat) (rdc : Int) (ro : Bool) (dv : Value) (d : FD) (L : List (List Int)) (vE vI : Value) (wr : World) : Prop :=
  ∃ (r q : Nat) (Buf : List Int), vE = .nilIface ∧ vI = .int .i64 r ∧ r ≤ q ∧ q ≤ d.bs.length ∧ wr.heap[g]? = some (.cells (Buf.map (Value.int .u8)).toArray 5 (0, 0)) ∧ Buf.length = 2 * h ∧ (∀ c ∈ Buf, 0 ≤ c ∧ c ≤ 255) ∧
    HandleIs wr f ⟨(q : Int), rdc, false, ro, fd⟩ ∧ DataIs wr B fd dv d ∧ Wrote (fun k => k = f ∨ k = g) w1 wr ∧ NoOcc (d.bs.map toU) (mapU L) q ∧
    ((r = 0 ∧ q = 0) ∨ (r = 1 ∧ q = h ∧ Buf.take h = (d.bs.drop 0).take h) ∨ (2 ≤ r ∧ h ≤ q ∧ Buf.drop h = (d.bs.drop (q - h)).take h))
/-- The state of the loop over what is asked for. -/
def InnRel (wc : World) (L : List (List Int)) (Buf : List Int) (i : Value) (wx : World) : Prop := ∃ k j : Nat, k ≤ L.length ∧ i = .int .i64 k ∧ wx = wc.drewN j ∧ Hid (∀ s ∈ L.take k, ¬ Occ (Buf.map toU) (s.map toU))
/-- The state behind a read. -/
def ReadRel (w1 : World) (g f B fd h q : Nat) (rdc : Int) (ro : Bool) (dv : Value) (d : FD) (vN vE : Value) (wr : World) : Prop :=
  ∃ (n p x : Nat) (Buf : List Int), vN = .int .i64 n ∧ ((n = h ∧ vE = .nilIface) ∨ (n < h ∧ q + n = d.bs.length ∧ ∃ a, vE = .iface 119 a)) ∧ q + n ≤ d.bs.length ∧ wr.heap[g]? = some (.cells (Buf.map (Value.int .u8)).toArray 5 (0, 0)) ∧ Buf.length = 2 * h ∧ (∀ c ∈ Buf, 0 ≤ c ∧ c ≤ 255) ∧
    HandleIs wr f ⟨((q + n : Nat) : Int), rdc, false, ro, fd⟩ ∧ DataIs wr B fd dv d ∧ Wrote (fun k => k = f ∨ k = g) w1 wr ∧ p + x = q + n ∧ (p + h ≤ q ∨ p = 0) ∧ Buf.take x = (d.bs.drop p).take x ∧
    (n = h → ((q = 0 ∧ Buf.take h = (d.bs.drop 0).take h) ∨ (0 < q ∧ Buf.drop h = (d.bs.drop q).take h)))

set_option maxRecDepth 100000 in
set_option maxHeartbeats 4000000 in
theorem reader_any (f fd B : Nat) (rdc : Int) (ro : Bool) (dv : Value) (d : FD) (A : Option Addr) (c : Nat) (L : List (List Int)) (w : World) (p8 p9 : Addr) (s8 : w.cell? ⟨8, 0, none⟩ = some (.iface 119 (.pointer (some p8)))) (s9 : w.cell? ⟨9, 0, none⟩ = some (.iface 119 (.pointer (some p9))))
    (hlow : 9 < w.heap.size ∧ 9 < f) (hH : HandleIs w f ⟨0, rdc, false, ro, fd⟩) (hD : DataIs w B fd dv d) (hR : ReadsRow (BytK w) 1 w A L.length L) (hL : L.length ≤ 10) (hLs : ∀ s ∈ L, s.length ≤ 20000) (hl : d.bs.length ≤ 20000) :
    Calls Tryd.prog 40 #[.pointer (some ⟨f, 0, none⟩), .slice A L.length c] w (ReaderPost d.bs L f w) := by
  have HR := Lib.hid hR
  have HS := Lib.hid hLs
  have HH := Lib.hid hH
  have HD := Lib.hid hD
  clear hR hLs hH hD
  by_cases h0 : L.length = 0
  · have hb : ((L.length : Int) == 0) = true := by simp [h0]
    obtain rfl : L = [] := List.eq_nil_of_length_eq_zero h0
    clear h0 hb
    go_enter Tryd.func40, Tryd.ntmps40
    go_wp2
    go_ret
    exact ⟨false, rfl, says_none rfl, Wrote.refl _ _⟩
  have hb : ((L.length : Int) == 0) = false := beq_eq_false_iff_ne.2 (by omega)
  go_enter Tryd.func40, Tryd.ntmps40
  go_wp2_with fail
  go_loop [5, 25] (fun m i => ∃ k M : Nat, k ≤ L.length ∧ i = .int .i64 k ∧ m = .int .i64 M ∧ Hid (M = mx (L.take k)) ∧ M ≤ 20000) (fun _ i => L.length - (intOf i).toNat)
  case atStart => exact ⟨0, 0, Nat.zero_le _, rfl, rfl, Lib.hid rfl, by omega⟩
  case round =>
    obtain ⟨k, M, hk, rfl, rfl, hM, hMl⟩ := hrel
    by_cases hlt : k < L.length
    · obtain ⟨b, off, A2, c2, rfl, hbl, x0, _⟩ := row_at HR.out k hlt
      have hsl := HS.out L[k] (List.getElem_mem _)
      have hmt := mx_take L k hlt
      obtain ⟨m, hm⟩ : ∃ m, m = (L[k]).length := ⟨_, rfl⟩
      rw [← hm] at x0 hsl hmt
      have HMT := Lib.hid hmt
      clear hm hmt
      by_cases hg : M < m
      · have hg' : (M : Int) < (m : Int) := by omega
        go_wp2_with fail
        go_round
        case rel => exact ⟨k + 1, m, by omega, by go_num, rfl, Lib.hid (by have := HMT.out; have := hM.out; omega), hsl⟩
        case measure => simp [intOf]; omega
      · have hg' : ¬ (M : Int) < (m : Int) := by omega
        go_wp2_with fail
        go_round
        case rel => exact ⟨k + 1, M, by omega, by go_num, rfl, Lib.hid (by have := HMT.out; have := hM.out; omega), hMl⟩
        case measure => simp [intOf]; omega
    · obtain rfl : k = L.length := by omega
      rw [List.take_length] at hM
      by_cases hM0 : M = 0
      · subst hM0
        go_wp2_with fail
        go_ret
        exact ⟨false, rfl, says_none hM.out.symm, Wrote.refl _ _⟩
      · have hMb : ((M : Int) == 0) = false := beq_eq_false_iff_ne.2 (by omega)
        have hMp : 0 < M := by omega
        obtain ⟨h, hh⟩ : ∃ h : Nat, h = 2 * M := ⟨_, rfl⟩
        obtain ⟨bb, hbb⟩ : ∃ bb : Nat, bb = 2 * h := ⟨_, rfl⟩
        obtain ⟨i0, hi, hzz⟩ := Option.map_eq_some_iff.1 infoU8
        simp only [Prod.mk.injEq] at hzz
        obtain ⟨Z, hZ, hZs, hmk⟩ := make_run (P := Tryd.prog) (t := 22) Tryd.underlying22 hi hzz.1 bb (by rw [hzz.2.2]; omega) (by unfold maxLen; omega)
        have q0 : (M : Int) * 4 = (bb : Int) := by omega
        have q1 : (bb : Int) / 2 = (h : Int) := by omega
        have HZ : Hid (Z = ((List.replicate bb (0 : Int)).map (Value.int .u8)).toArray) := Lib.hid (by
          rw [hZ.out, hzz.2.1, Nat.mul_one, ← made_zeros bb])
        have HBB := Lib.hid hbb
        have HHM := Lib.hid hh
        have hh1 : h ≤ 40000 := by omega
        have hh2 : 0 < h := by omega
        have hh3 : h ≤ bb := by omega
        have hlH : f < w.heap.size := lt_of_heap HH.out
        have hbe := (Below.refl w.heap.size w).alloc (Nat.le_refl _) (.cells Z 5)
        have hs8 : (w.alloc (.cells Z 5)).cell? ⟨8, 0, none⟩ = some (.iface 119 (.pointer (some p8))) := (hbe.cell (p := ⟨8, 0, none⟩) (by show 8 < _; omega)).trans s8
        have hs9 : (w.alloc (.cells Z 5)).cell? ⟨9, 0, none⟩ = some (.iface 119 (.pointer (some p9))) := (hbe.cell (p := ⟨9, 0, none⟩) (by show 9 < _; omega)).trans s9
        have hst : BigRel (w.alloc (.cells Z 5)) w.heap.size f B fd h rdc ro dv d L .nilIface (.int .i64 0) (w.alloc (.cells Z 5)) := by
          refine ⟨0, 0, List.replicate bb 0, rfl, rfl, Nat.le_refl _, Nat.zero_le _, ?_, by simp [HBB.out], ?_, HH.out.below hbe, HD.out.below hbe, Wrote.refl _ _, noOcc_start _ _, .inl ⟨rfl, rfl⟩⟩
          · rw [← HZ.out]; exact alloc_new _ _
          · intro c hc
            obtain ⟨_, rfl⟩ := List.mem_replicate.1 hc
            omega
        have HST := Lib.hid hst
        clear hZ hZs hzz hi hM0 hh hbb hst s8 s9
        go_wp2_with fail
        clear hmk q0
        go_loopw [11, 13] (fun vE vI wr => BigRel (w.alloc (.cells Z 5)) w.heap.size f B fd h rdc ro dv d L vE vI wr) (fun _ vI _ => d.bs.length + 1 - (intOf vI).toNat)
        case atStart => exact HST.out
        case round =>
          obtain ⟨r, q, Buf, rfl, rfl, hrq, hqd, hg, hbl, hbf, hH1, hD1, hW1, hno, hcase⟩ := hrel
          clear HST
          go_upto_if 47 with fail
          go_cut [11, 12] (fun vE vN wx => ReadRel (w.alloc (.cells Z 5)) w.heap.size f B fd h q rdc ro dv d vN vE wx)
          case first =>
            have hgf : ¬ w.heap.size = f := by omega
            have hgd : w.heap.size ≠ fd := by have := lt_of_heap HD.out.1; omega
            have hgr : ∀ k, dv.ownBlock = some k → k ≠ w.heap.size := fun k hk => by have := own_lt HD.out.2.1 k hk; omega
            have hsz := hW1.size
            rw [World.size_alloc] at hsz
            have hS8 : wr.cell? ⟨8, 0, none⟩ = some (.iface 119 (.pointer (some p8))) := by
              rw [← hs8]; simp only [World.cell?, hW1.block 8 (by simp; omega) (by omega)]
            have hS9 : wr.cell? ⟨9, 0, none⟩ = some (.iface 119 (.pointer (some p9))) := by
              rw [← hs9]; simp only [World.cell?, hW1.block 9 (by simp; omega) (by omega)]
            have hbh := HBB.out
            rcases hcase with ⟨rfl, rfl⟩ | ⟨rfl, rfl, hbuf⟩ | ⟨hr2, hhq, hbuf⟩
            · obtain ⟨n, hn⟩ : ∃ n, n = min h (d.bs.length - 0) := ⟨_, rfl⟩
              have hat := atLeast_any w.heap.size 0 h bb _ 5 f B fd 0 n rdc ro dv d wr p8 p9 hS8 hS9 (by omega) hg hgf hgd hgr (by simp; omega) hH1 hD1 (by omega) hh2 hh3 hn (by omega) (by omega)
              have HAT := Lib.hid hat
              have HN := Lib.hid hn
              clear hat hn hS8 hS9 hgr hgd hbh
              go_wp2_with fail
              refine HAT.out.mono ?_
              rintro e w3 ⟨E, rfl, hE, hH3, hD3, hg3, hW3⟩
              go_wp2_with fail
              go_meet
              rw [cells_splice] at hg3
              have hn := HN.out
              refine ⟨n, 0, n, _, rfl, ?_, by omega, hg3, by rw [splice_len (by simp; omega)]; exact hbl, splice_fits hbf (part_fits hD1.2.2 _ _), ?_, hD3, hW1.trans hW3, by omega, .inr rfl, splice_head' (by omega), fun e => .inl ⟨rfl, ?_⟩⟩
              · rcases hE with ⟨e1, e2⟩ | ⟨e1, e2⟩
                · exact .inl ⟨e1, e2⟩
                · exact .inr ⟨e1, by omega, e2⟩
              · simpa using hH3
              · subst e; exact splice_head' (by omega)
            · obtain ⟨n, hn⟩ : ∃ n, n = min q (d.bs.length - q) := ⟨_, rfl⟩
              have hat := atLeast_any w.heap.size q q q _ 5 f B fd q n rdc ro dv d wr p8 p9 hS8 hS9 (by omega) hg hgf hgd hgr (by simp; omega) hH1 hD1 (by omega) hh2 (Nat.le_refl _) hn (by omega) (by omega)
              have HAT := Lib.hid hat
              have HN := Lib.hid hn
              have hbq : bb - q = q := by omega
              have HBQ := Lib.hid hbq
              clear hat hn hS8 hS9 hgr hgd hbq hbh
              go_wp2_with fail
              rw [HBQ.out]
              refine HAT.out.mono ?_
              rintro e w3 ⟨E, rfl, hE, hH3, hD3, hg3, hW3⟩
              go_wp2_with fail
              go_meet
              rw [cells_splice] at hg3
              have hn := HN.out
              have hsn := splice_next (n := n) hbuf (by omega)
              rw [Nat.zero_add] at hsn
              refine ⟨n, 0, q + n, _, rfl, ?_, by omega, hg3, by rw [splice_len (by simp; omega)]; exact hbl, splice_fits hbf (part_fits hD1.2.2 _ _), ?_, hD3, hW1.trans hW3, by omega, .inr rfl, hsn, fun e => .inr ?_⟩
              · rcases hE with ⟨e1, e2⟩ | ⟨e1, e2⟩
                · exact .inl ⟨e1, e2⟩
                · exact .inr ⟨e1, by omega, e2⟩
              · rw [Int.natCast_add]; exact hH3
              · have e' := e
                subst e'
                exact ⟨by omega, splice_back _ (by simp; omega) hbl⟩
            · have e1 : ((r : Int) + 1 == 1) = false := beq_eq_false_iff_ne.2 (by omega)
              have e2 : ((r : Int) + 1 != 2) = true := by simp; omega
              have hsrc := C_of_bytes' (bytes_cells hg hbf h h h (by omega) (Nat.le_refl _) (by unfold maxLen; omega))
              rw [List.take_of_length_le (by simp; omega)] at hsrc
              have hbq : bb - h = h := by omega
              have hcp := fun (W : World) (hG : W.heap[w.heap.size]? = some (.cells (Buf.map (Value.int .u8)).toArray 5 (0, 0))) (hb : Below wr.heap.size wr W) ty => copy_bytes ty w.heap.size 0 bb bb h h _ 5 hG (by simp; omega) hh3 _ _ (Kd.C_below hsrc hb)
              have HCP := Lib.hid hcp
              have HBQ := Lib.hid hbq
              have hne : ¬ bb = h := by omega
              clear hbq hcp hsrc hbh
              go_wp2_with fail
              go_region_law (refine step_copy_run rfl (.tmp 60) (.tmp 63) 22 22 rfl (.slice (some ⟨w.heap.size, 0, none⟩) bb bb) (.slice (some ⟨w.heap.size, h, none⟩) h h) (by simp [Act.eval, Act.put]) (by simp [Act.eval, Act.put, HBQ.out]) _ (HCP.out wr.drew hg ⟨rfl, rfl, rfl, Nat.le_refl _, fun _ _ => rfl⟩ _) ?_; rintro v1 w2 ⟨rfl, hg2, hw2, hz2⟩)
              have hw2' : Wrote (fun k => k = w.heap.size) wr w2 := ⟨hw2.os, hw2.tape, hw2.output, hw2.size, hw2.block⟩
              have hg2' : w2.heap[w.heap.size]? = some (.cells ((splice Buf 0 (Buf.drop h)).map (Value.int .u8)).toArray 5 (0, 0)) := by rw [← cells_splice]; exact hg2
              have hl2 : (splice Buf 0 (Buf.drop h)).length = 2 * h := by rw [splice_len (by simp)]; exact hbl
              have hB2 : (splice Buf 0 (Buf.drop h)).take h = (d.bs.drop (q - h)).take h := by rw [splice_shift hbl]; exact hbuf
              have hf2 := splice_fits (o := 0) hbf (fun c hc => hbf c (List.mem_of_mem_drop (i := h) hc))
              have hH2 := hH1.wrote hw2' (fun e => hgf e.symm)
              have hD2 := hD1.wrote hw2' (fun e => hgd e.symm) hgr
              have hS82 : w2.cell? ⟨8, 0, none⟩ = some (.iface 119 (.pointer (some p8))) := by
                rw [← hS8]; simp only [World.cell?, hw2'.block 8 (by omega) (by omega)]
              have hS92 : w2.cell? ⟨9, 0, none⟩ = some (.iface 119 (.pointer (some p9))) := by
                rw [← hS9]; simp only [World.cell?, hw2'.block 9 (by omega) (by omega)]
              have hz2' := hw2'.size
              generalize hBB : splice Buf 0 (Buf.drop h) = Buf2 at hg2' hl2 hB2 hf2
              clear hBB hg2 hw2 hz2
              obtain ⟨n, hn⟩ : ∃ n, n = min h (d.bs.length - q) := ⟨_, rfl⟩
              have hat := atLeast_any w.heap.size h h h _ 5 f B fd q n rdc ro dv d w2 p8 p9 hS82 hS92 (by omega) hg2' hgf hgd hgr (by simp; omega) hH2 hD2 (by omega) hh2 (Nat.le_refl _) hn (by omega) (by omega)
              have HAT := Lib.hid hat
              have HN := Lib.hid hn
              clear hat hn hS8 hS9 hS82 hS92 hgr hgd
              go_wp2_with fail
              rw [HBQ.out]
              refine HAT.out.mono ?_
              rintro e w3 ⟨E, rfl, hE, hH3, hD3, hg3, hW3⟩
              go_wp2_with fail
              go_meet
              rw [cells_splice] at hg3
              have hn := HN.out
              have hsn := splice_next (n := n) hB2 (by omega)
              have eqh : q - h + h = q := by omega
              rw [eqh] at hsn
              refine ⟨n, q - h, h + n, _, rfl, ?_, by omega, hg3, by rw [splice_len (by simp; omega)]; exact hl2, splice_fits hf2 (part_fits hD1.2.2 _ _), ?_, hD3, (hW1.trans (hw2'.mono (fun k _ e => .inr e))).trans hW3, by omega, .inl (by omega), hsn, fun e => .inr ?_⟩
              · rcases hE with ⟨e1, e2⟩ | ⟨e1, e2⟩
                · exact .inl ⟨e1, e2⟩
                · exact .inr ⟨e1, by omega, e2⟩
              · rw [Int.natCast_add]; exact hH3
              · subst e
                exact ⟨by omega, splice_back _ (by simp; omega) hl2⟩
          case rest =>
            obtain ⟨n, p, x, Buf2, rfl, hE, hqn, hg2, hbl2, hbf2, hH2, hD2, hW2, hpx, hpq, hwin, hnext⟩ := hcut
            have hr1 : 0 < q → 1 ≤ r := fun h1 => by rcases hcase with ⟨h2, h3⟩ | ⟨h2, _⟩ | ⟨h2, _⟩ <;> omega
            have HR1 := Lib.hid hr1
            clear hg hbl hbf hH1 hD1 hcase hs8 hs9 hr1
            have hsame : SameBut f w wc := fun k hk hkf => by
              rw [hW2.block k (by simp; omega) (by omega)]
              exact hbe.block k hk
            have hWw : Wrote (fun k => k = f) w wc := ((Wrote.of_below (S := fun k => k = f ∨ k = w.heap.size) hbe).trans hW2).mono (fun k hk e => by omega)
            have n1 := fun W v => err_neq W v
            have n2 := fun W => nil_neq W
            have HNX := Lib.hid hnext
            have HWI := Lib.hid hwin
            have HNO := Lib.hid hno
            clear hnext hwin hno
            by_cases hn0 : n = 0
            · subst hn0
              rcases hE with ⟨e1, _⟩ | ⟨_, e1, a, rfl⟩
              · omega
              · have hsn := HNO.out
                rw [show q = d.bs.length by omega] at hsn
                have HSN := Lib.hid hsn
                clear hsn e1
                go_wp2_with fail
                go_ret
                exact ⟨false, rfl, says_no HSN.out, hWw⟩
            · have hn0' : (0 : Int) < (n : Int) := by omega
              have hn0d : decide (0 < n) = true := decide_eq_true (by omega)
              have hbk := bytes_cells hg2 hbf2 0 bb bb (by have := HBB.out; omega) (Nat.le_refl _) (by unfold maxLen; have := HBB.out; omega)
              rw [List.drop_zero, List.take_of_length_le (by have := HBB.out; omega)] at hbk
              have zB := C_str (c := bb) (C_of_bytes' hbk)
              have HZB := Lib.hid zB
              have hBs : (strOfNums Buf2).size ≤ 4294967296 := by rw [strOfNums_size]; have := HBB.out; omega
              clear hbk zB
              obtain ⟨wo, hwo⟩ : ∃ wo, wo = wr := ⟨_, rfl⟩
              clear hwo
              go_wp2_with fail
              go_loopw [15, 78] (fun _ i wx => InnRel wc L Buf2 i wx) (fun _ i _ => L.length - (intOf i).toNat)
              case atStart => exact ⟨0, 0, Nat.zero_le _, rfl, rfl, Lib.hid (fun s hs => by simp at hs)⟩
              case round =>
                obtain ⟨k, j, hk, rfl, rfl, hall⟩ := hrel
                by_cases hlt : k < L.length
                · obtain ⟨b, off, A2, c2, rfl, hbl, x0, hby⟩ := row_at HR.out k hlt
                  have hbf : b ≠ f := not_handle HH.out x0 (.inl ⟨_, _, _, rfl⟩)
                  have y0 := same_cell hsame x0 hbf
                  have hby2 := bytes_same HH.out hsame hby
                  have hsl := HS.out L[k] (List.getElem_mem _)
                  obtain ⟨s, hs⟩ : ∃ s, s = L[k] := ⟨_, rfl⟩
                  rw [← hs] at y0 hby2 hsl
                  have y0' : (wc.drewN j).cell? ⟨b, off + k, none⟩ = some (.slice A2 s.length c2) := y0
                  have zA := C_str (c := c2) (C_of_bytes' hby2) j
                  have zB := HZB.out j
                  obtain ⟨fk, bo, hfc, hbo⟩ := contains_some (strOfNums Buf2) (strOfNums s) hBs (by rw [strOfNums_size]; omega)
                  have hoc : bo = true ↔ Occ (Buf2.map toU) (s.map toU) := hbo
                  have HOC := Lib.hid hoc
                  have HFC := Lib.hid hfc
                  have HEQ := Lib.hid hs
                  clear hoc hbo hfc hs y0 x0 hby hby2
                  go_wp2_with fail
                  refine (PFnContainsIn.afero_zzContains.calls fk _ _ bo _ HFC.out).mono ?_
                  rintro e w4 ⟨rfl, j2, rfl⟩
                  cases bo with
                  | true =>
                    go_wp2_with fail
                    go_ret
                    exact ⟨true, rfl, says_yes (by have := hM.out; omega), hWw.drewN _⟩
                  | false =>
                    go_wp2_with fail
                    go_roundw
                    case rel =>
                      refine ⟨k + 1, j + j2, by omega, by go_num, rfl, Lib.hid (fun t ht => ?_)⟩
                      rw [List.take_succ_eq_append_getElem hlt] at ht
                      rcases List.mem_append.1 ht with h1 | h1
                      · exact hall.out t h1
                      · obtain rfl := List.mem_singleton.1 h1
                        rw [← HEQ.out]
                        intro ho
                        have := HOC.out.2 ho
                        cases this
                    case measure => simp [intOf]; omega
                · obtain rfl : k = L.length := by omega
                  rw [List.take_length] at hall
                  have hstep : NoOcc (d.bs.map toU) (mapU L) (p + x) := by
                    refine noOcc_step (b := M) HNO.out ?_ ?_ (take_map_eq HWI.out) (by simp; omega) ?_
                    · intro t ht
                      obtain ⟨s, hs, rfl⟩ := List.mem_map.1 ht
                      rw [List.length_map, hM.out]
                      exact le_mx hs
                    · have := HHM.out
                      rcases hpq with h1 | h1
                      · exact .inl (by omega)
                      · exact .inr h1
                    · intro t ht
                      obtain ⟨s, hs, rfl⟩ := List.mem_map.1 ht
                      exact hall.out s hs
                  rw [hpx] at hstep
                  have HSTEP := Lib.hid hstep
                  clear hstep
                  rcases hE with ⟨rfl, rfl⟩ | ⟨hnh, e1, a, rfl⟩
                  · have hq2 : wo = wo := rfl
                    go_wp2_with fail
                    go_roundw
                    case rel =>
                      refine ⟨r + 1, q + n, Buf2, rfl, by go_num, by omega, hqn, hg2, hbl2, hbf2, hH2, ⟨hD2.1, own_move hD2.2.1 (fun _ _ => rfl), hD2.2.2⟩, hW2.drewN _, HSTEP.out, ?_⟩
                      rcases HNX.out rfl with ⟨e1, e2⟩ | ⟨e1, e2⟩
                      · subst e1
                        exact .inr (.inl ⟨by omega, by omega, e2⟩)
                      · exact .inr (.inr ⟨by have := HR1.out e1; omega, by omega, by rw [Nat.add_sub_cancel]; exact e2⟩)
                    case measure => simp [intOf]; omega
                  · go_wp2_with fail
                    go_ret
                    have := HSTEP.out
                    rw [e1] at this
                    exact ⟨false, rfl, says_no this, hWw.drewN _⟩
end Go.Proofs.YtfanlhkpblemgaaDoor
