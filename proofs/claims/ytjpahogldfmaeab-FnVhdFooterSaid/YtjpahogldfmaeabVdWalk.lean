/- FnVhdFooter: the walks of the reference. -/
import Derived.Test.YtjpahogldfmaeabVcWalk
namespace Go.Proofs.Ytjpahogldfmaeab
open Go.RowKit Go.Rd
set_option linter.unusedVariables false
set_option linter.unusedSimpArgs false
open Go.Proofs.YtjpahogldfmaeabW.PrintWords Go.Proofs.YtjpahogldfmaeabW.PrintLast Go.Proofs.YtjpahogldfmaeabW.PrintMore

theorem u64_same (x : Int) (h1 : 0 ≤ x) (h2 : x ≤ 4294967295) : IntKind.u64.wrap x = x := by
  have e : IntKind.u64.wrap x = x % 18446744073709551616 := by simp [IntKind.wrap, IntKind.bits, IntKind.signed]
  rw [e]
  omega
/-- A block of bytes that is known whole. -/
def BlkIs (w : World) (g : Nat) (L : List Int) : Prop := w.heap[g]? = some (.cells (L.map (Value.int .u8)).toArray 5 (0, 0))
theorem BlkIs.cell {w : World} {g : Nat} {L : List Int} (h : BlkIs w g L) (j : Nat) (hj : j < L.length) : w.cell? ⟨g, j, none⟩ = some (.int .u8 L[j]) := by
  rw [cell_of h]
  simp [List.getElem?_eq_getElem hj]
theorem BlkIs.set {w : World} {g : Nat} {L : List Int} (h : BlkIs w g L) (j : Nat) (x : Int) : BlkIs (w.setCell ⟨g, j, none⟩ (.int .u8 x)) g (L.set j x) := by
  have := Go.Rd.heap_setCell_same (o := j) h (.int .u8 x)
  unfold BlkIs
  rw [this, List.setIfInBounds_toArray, List.map_set]
/-- A number's byte, the highest first. -/
def beAt (n : Nat) (x : Int) (i : Nat) : Int := x / 2 ^ (8 * (n - 1 - i)) % 256
/-- Bytes laid at a place. -/
def laid (L : List Int) (at_ n : Nat) (x : Int) : Nat → List Int
  | 0 => L
  | i + 1 => (laid L at_ n x i).set (at_ + i) (beAt n x i)
theorem laid_length (L : List Int) (at_ n : Nat) (x : Int) (i : Nat) : (laid L at_ n x i).length = L.length := by
  induction i with
  | zero => rfl
  | succ i ih => simp [laid, ih]
theorem laid_fits {L : List Int} (h : ∀ c ∈ L, 0 ≤ c ∧ c ≤ 255) (at_ n : Nat) (x : Int) (i : Nat) : ∀ c ∈ laid L at_ n x i, 0 ≤ c ∧ c ≤ 255 := by
  induction i with
  | zero => exact h
  | succ i ih =>
    intro c hc
    rcases List.mem_or_eq_of_mem_set hc with g | g
    · exact ih c g
    · subst g
      unfold beAt
      omega
def HighRel (w : World) (g : Nat) (L : List Int) (at_ n : Nat) (x : Int) (v : Value) (wr : World) : Prop :=
  ∃ i : Nat, i ≤ n ∧ v = .int .i64 i ∧ BlkIs wr g (laid L at_ n x i) ∧ Wrote (fun k => k = g) w wr

set_option maxRecDepth 100000 in
set_option maxHeartbeats 2000000 in
theorem high_any (g : Nat) (L : List Int) (at_ n : Nat) (x : Int) (w : World) (h : BlkIs w g L) (hn : n ≤ 8) (ha : at_ + n ≤ L.length) (hl : L.length ≤ 1000) (hx : 0 ≤ x ∧ x < 18446744073709551616) :
    Calls Try.prog 8 #[.slice (some ⟨g, 0, none⟩) L.length L.length, .int .i64 (at_ : Int), .int .i64 (n : Int), .int .u64 x] w fun e w' => e = .returned (.tuple #[]) ∧ BlkIs w' g (laid L at_ n x n) ∧ Wrote (fun k => k = g) w w' := by
  obtain ⟨hx1, hx2⟩ := hx
  go_enter Try.func8, Try.ntmps8
  go_wp2
  go_loopw [8] (fun v wr => HighRel w g L at_ n x v wr) (fun v _ => n - (intOf v).toNat)
  case atStart => exact ⟨0, Nat.zero_le _, rfl, h, Wrote.refl _ _⟩
  case round =>
    obtain ⟨i, hi, rfl, hb, hW⟩ := hrel
    by_cases hlt : i < n
    · have hll := laid_length L at_ n x i
      have hc := hb.cell (at_ + i) (by rw [hll]; omega)
      obtain ⟨c0, hc0⟩ : ∃ c, (laid L at_ n x i)[at_ + i]'(by rw [hll]; omega) = c := ⟨_, rfl⟩
      rw [hc0] at hc
      have hf := free_of hb (at_ + i)
      have HB := Lib.hid hb
      clear hb hll hc0
      go_wp2
      exact ⟨⟨i + 1, by omega, by go_num, HB.out.set _ _, hW.setCell (fun _ => rfl) _⟩, by simp [intOf]; omega⟩
    · obtain rfl : i = n := by omega
      go_wp2
      go_end0
      exact ⟨rfl, hb, hW⟩

theorem made_zeros (m : Nat) : madeCells (Value.int .u8 0).cells m = ((List.replicate m (0 : Int)).map (Value.int .u8)).toArray := by
  apply Array.toList_inj.1
  apply List.ext_getElem?
  intro i
  have hs : (madeCells (Value.int .u8 0).cells m).size = m := size_madeCells _ _
  by_cases hi : i < m
  · rw [List.getElem?_eq_getElem (by simp [hs]; exact hi), List.getElem?_eq_getElem (by simp; exact hi)]
    simp [madeCells, Value.cells, Nat.mod_one]
  · rw [List.getElem?_eq_none (by simp [hs]; omega), List.getElem?_eq_none (by simp; omega)]
theorem make_zeros (m : Nat) (hm : m ≤ 1000) : ∃ Z : Array Value, Z = ((List.replicate m (0 : Int)).map (Value.int .u8)).toArray ∧ ∀ W : World, (Instr.makeSlice 22 (.int .i64 (m : Int)) (.int .i64 (m : Int))).run Try.prog W = .ok (.slice (some ⟨W.heap.size, 0, none⟩) m m) (W.alloc (.cells Z 5)) := by
  obtain ⟨i0, hi, hzz⟩ := Option.map_eq_some_iff.1 infoU8
  simp only [Prod.mk.injEq] at hzz
  obtain ⟨Z, hZ, hZs, hmk⟩ := make_run (P := Try.prog) (t := 22) Try.underlying22 hi hzz.1 m (by rw [hzz.2.2]; omega) (by unfold maxLen; omega)
  exact ⟨Z, by rw [hZ.out, hzz.2.1, Nat.mul_one]; exact made_zeros m, hmk⟩

theorem new_zeros {Z : Array Value} {l : List Value} (h : Z = l.toArray) (w : World) : (w.alloc (.cells Z 5)).heap[w.heap.size]? = some (.cells l.toArray 5 (0, 0)) := by
  rw [← h]; exact alloc_new _ _
theorem splice_pad (bs : List Int) : splice ((List.replicate 16 (0 : Int)).map (Value.int .u8)) 0 ((bs.take 16).map (Value.int .u8)) = (pad16 bs).map (Value.int .u8) := by
  unfold splice pad16
  rw [List.take_zero, List.nil_append, List.map_replicate, List.drop_replicate, List.map_append, List.map_replicate]
  congr 2
  simp
  omega
/-- A new block of sixteen bytes. -/
def NewBlk (w : World) (l : List Int) (e : Ending) (w' : World) : Prop := ∃ g, e = .returned (.slice (some ⟨g, 0, none⟩) l.length l.length) ∧ BlkIs w' g l ∧ w.heap.size ≤ g ∧ Below w.heap.size w w'

set_option maxRecDepth 100000 in
set_option maxHeartbeats 2000000 in
theorem sixteen_any (A : Option Addr) (n c : Nat) (bs : List Int) (w : World) (hb : BytesIn w A n c bs) (hn : n ≤ 100) :
    Calls Try.prog 9 #[.slice A n c] w (NewBlk w (pad16 bs)) := by
  have hsz : (Try.prog.info? 5).map (·.size) = some 1 := by kernel_rfl
  have HSZ := Lib.hid hsz
  have hbl := hb.len
  have HBL := Lib.hid hbl
  obtain ⟨Z, hZ, hmk⟩ := make_zeros 16 (by decide)
  have hmk' : ∀ W : World, (Instr.makeSlice 22 (.int .i64 16) (.int .i64 16)).run Try.prog W = .ok (.slice (some ⟨W.heap.size, 0, none⟩) 16 16) (W.alloc (.cells Z 5)) := hmk
  have HZ := Lib.hid hZ
  clear hsz hbl hmk hZ
  go_enter Try.func9, Try.ntmps9
  go_wp2_with (refine wpList_copy_splice rfl (.tmp 5) (.tmp 6) 22 22 rfl 5 Try.underlying22 HSZ.out (some ⟨w.heap.size, 0, none⟩) A 16 16 n c rfl rfl w.heap.size 0 ((List.replicate 16 (0 : Int)).map (Value.int .u8)) 5 (new_zeros HZ.out w) ((bs.take 16).map (Value.int .u8)) ?hn ?hpos ?hfit ?h1 w.heap.size w ((Below.refl _ _).alloc (Nat.le_refl _) _) (Nat.le_refl _) ?_; (case hn => simp [HBL.out]; exact Nat.min_comm _ _); (case hpos => exact fun h => ⟨rfl, pos_src hb HBL.out ((Below.refl _ _).alloc (Nat.le_refl _) _) h⟩); (case hfit => simp; omega); (case h1 => intro v hv; obtain ⟨x, _, rfl⟩ := List.mem_map.1 hv; rfl); intro w1 hg1 hB1)
  go_ret
  refine ⟨w.heap.size, ?_, ?_, Nat.le_refl _, hB1⟩
  · rw [pad16_length]; rfl
  · have h := hg1.out
    unfold BlkIs
    rw [h]
    congr 3
    exact splice_pad bs

theorem high512 (g : Nat) (L : List Int) (at_ n : Nat) (a b x : Int) (w : World) (h : BlkIs w g L) (e1 : a = at_) (e2 : b = n) (hn : n ≤ 8) (ha : at_ + n ≤ 512) (hl : L.length = 512) (hx : 0 ≤ x ∧ x < 18446744073709551616) :
    Calls Try.prog 8 #[.slice (some ⟨g, 0, none⟩) 512 512, .int .i64 a, .int .i64 b, .int .u64 x] w fun e w' => e = .returned (.tuple #[]) ∧ BlkIs w' g (laid L at_ n x n) ∧ Wrote (fun k => k = g) w w' := by
  subst e1 e2
  rw [← hl]
  exact high_any g L at_ n x w h hn (by omega) (by omega) hx

/-- A region's step that copies, by its run. -/
theorem step_copy_run {P : Program} {w : World} {ops : Array Oper} {o : Oper} {a : Act} {K : Act → World → Prop} {Q : Exit → Act → World → Prop} {E : Prop} (hgd : o.guard = none) (s x : Operand) (t u : TypeId)
    (ho : o.op = .call { callee := .builtin .copy, args := #[s, x], argTypes := #[t, u] }) (v y : Value) (hs : a.eval s = v) (hx : a.eval x = y) (R : Value → World → Prop)
    (hrun : ∃ v' w', (Builtin.copy_ #[t, u] o.type #[v, y]).run P w = .ok v' w' ∧ R v' w') (h : ∀ v' w', R v' w' → K (a.put o.dst v') w') :
    if Region.wanted o (yielded ops a.tmps) = true then Oper.wp P o a w K Q else E := by
  have hw : Region.wanted o (yielded ops a.tmps) = true := by simp [Region.wanted, hgd]
  rw [if_pos hw]
  obtain ⟨v', w', hr, hR⟩ := hrun
  unfold Oper.wp execOp
  simp only [ho, resolve, invoke, builtin, Sem.run_bind, Sem.run_pure, Result.andThen_ok, List.map_toArray, List.map_cons, List.map_nil, hs, hx, hr]
  exact h v' w' hR

theorem sixteen16 (A : Option Addr) (n c : Nat) (bs : List Int) (w : World) (hb : BytesIn w A n c bs) (hn : n ≤ 100) :
    Calls Try.prog 9 #[.slice A n c] w fun e w' => ∃ g, e = .returned (.slice (some ⟨g, 0, none⟩) 16 16) ∧ BlkIs w' g (pad16 bs) ∧ w.heap.size ≤ g ∧ Below w.heap.size w w' := by
  have h := sixteen_any A n c bs w hb hn
  unfold NewBlk at h
  rw [pad16_length] at h
  exact h
/-- Sixteen bytes copied over a place of a block. -/
theorem copy16 {w : World} (ty : TypeId) (g off g2 m : Nat) (L u : List Int) (hg : BlkIs w g L) (h2 : BlkIs w g2 u) (hu : u.length = 16) (hm : 16 ≤ m) (hfit : off + 16 ≤ L.length) :
    ∃ v' w', (Builtin.copy_ #[22, 22] ty #[.slice (some ⟨g, off, none⟩) m m, .slice (some ⟨g2, 0, none⟩) 16 16]).run Try.prog w = .ok v' w' ∧ BlkIs w' g (L.take off ++ u ++ L.drop (off + 16)) ∧ Wrote (fun k => k = g) w w' := by
  have hs : (Try.prog.info? 5).map (·.size) = some 1 := by kernel_rfl
  obtain ⟨w', h1, h3, h4, _⟩ := copy_run (P := Try.prog) (w := w) (dT := 22) (sT := 22) (elem := 5) ty g off m m 16 16 ⟨g2, 0, none⟩ _ 5 (u.map (Value.int .u8)) Try.underlying22 hs hg (by simp [hu]; exact (Nat.min_eq_left hm).symm) (fun j v hv => by
    rw [addr_add, Nat.zero_add, cell_of h2 j]
    simpa using hv) (by simp [hu]; omega) (by intro v hv; obtain ⟨x, _, rfl⟩ := List.mem_map.1 hv; rfl)
  refine ⟨_, w', h1, ?_, h4⟩
  unfold BlkIs
  rw [h3]
  congr 3
  simp [splice, hu, List.map_take, List.map_drop]

/-- The footer's bytes as the reference lays them. -/
def specA (z : Int) : List Int := laid (laid (laid (laid (laid (laid (laid (cook ++ List.replicate 504 0) 8 4 2 4) 12 4 65536 4) 16 8 m64 8) 32 4 655360 4) 40 8 z 8) 48 8 z 8) 60 4 2 4
def specB (z : Int) (u : List Int) : List Int := (specA z).take 68 ++ u ++ (specA z).drop 84
def specC (z chk : Int) (u : List Int) : List Int := laid (specB z u) 64 4 chk 4
theorem specA_length (z : Int) : (specA z).length = 512 := by
  unfold specA
  simp only [laid_length, List.length_append, List.length_replicate]
  rfl

theorem specB_fits (z : Int) {u : List Int} (hu : ∀ c ∈ u, 0 ≤ c ∧ c ≤ 255) : ∀ c ∈ specB z u, 0 ≤ c ∧ c ≤ 255 := by
  have hA : ∀ c ∈ specA z, 0 ≤ c ∧ c ≤ 255 := by
    unfold specA
    refine laid_fits (laid_fits (laid_fits (laid_fits (laid_fits (laid_fits (laid_fits ?_ _ _ _ _) _ _ _ _) _ _ _ _) _ _ _ _) _ _ _ _) _ _ _ _) _ _ _ _
    intro c hc
    rcases List.mem_append.1 hc with g | g
    · clear hc
      unfold cook at g
      simp at g
      omega
    · rw [(List.mem_replicate.1 g).2]; decide
  intro c hc
  unfold specB at hc
  rcases List.mem_append.1 hc with g | g
  · rcases List.mem_append.1 g with g | g
    · exact hA c (List.mem_of_mem_take g)
    · exact hu c g
  · exact hA c (List.mem_of_mem_drop g)

set_option maxRecDepth 100000 in
set_option maxHeartbeats 2000000 in
theorem footer_any (size : Int) (A : Option Addr) (n c : Nat) (bs : List Int) (w : World) (hb : BytesIn w A n c bs) (hn : n ≤ 100) (hs : -9223372036854775808 ≤ size ∧ size ≤ 9223372036854775807) :
    Calls Try.prog 5 #[.int .i64 size, .slice A n c] w (NewBlk w (specC (IntKind.u64.wrap size) (cpl (sumTo (specB (IntKind.u64.wrap size) (pad16 bs)))) (pad16 bs))) := by
  have hsz : (Try.prog.info? 5).map (·.size) = some 1 := by kernel_rfl
  have HSZ := Lib.hid hsz
  obtain ⟨Z, hZ, hmk⟩ := make_zeros 512 (by decide)
  have hmk' : ∀ W : World, (Instr.makeSlice 22 (.int .i64 512) (.int .i64 512)).run Try.prog W = .ok (.slice (some ⟨W.heap.size, 0, none⟩) 512 512) (W.alloc (.cells Z 5)) := hmk
  have HZ := Lib.hid hZ
  have hzs : 0 + (⟨#[99, 111, 110, 101, 99, 116, 105, 120]⟩ : ByteArray).size ≤ Z.size := by rw [hZ]; show 8 ≤ (List.map (Value.int IntKind.u8) (List.replicate 512 0)).length; rw [List.length_map, List.length_replicate]; decide
  have HZS := Lib.hid hzs
  have hz := wrap_u64_bd size
  obtain ⟨z, hzz⟩ : ∃ z, IntKind.u64.wrap size = z := ⟨_, rfl⟩
  rw [hzz] at hz ⊢
  have HZZ := Lib.hid hzz
  obtain ⟨hz1, hz2⟩ := hz
  obtain ⟨L, hL⟩ : ∃ L, specB z (pad16 bs) = L := ⟨_, rfl⟩
  have hBl : L.length = 512 := by
    rw [← hL]
    unfold specB
    rw [List.length_append, List.length_append, List.length_take, List.length_drop, specA_length, pad16_length]
    rfl
  have hfit : ∀ c ∈ L, 0 ≤ c ∧ c ≤ 255 := by rw [← hL]; exact specB_fits z (pad16_fits hb.fits)
  have HFIT := Lib.hid hfit
  clear hfit
  obtain ⟨F, hF⟩ : ∃ F, laid L 64 4 (cpl (sumTo L)) 4 = F := ⟨_, rfl⟩
  have hFl : F.length = 512 := by rw [← hF, laid_length]; exact hBl
  have hfin : specC z (cpl (sumTo (specB z (pad16 bs)))) (pad16 bs) = F := by rw [hL, ← hF]; unfold specC; rw [hL]
  rw [hfin]
  have HL := Lib.hid hL
  have HBL := Lib.hid hBl
  have HF := Lib.hid hF
  have HFL := Lib.hid hFl
  clear hsz hmk hZ hzs hzz hL hBl hF hFl hfin
  go_enter Try.func5, Try.ntmps5
  go_wp2_with (refine wpList_copy_str rfl (.tmp 10) _ 22 9 rfl 5 Try.underlying22 HSZ.out w.heap.size 0 512 512 ⟨#[99, 111, 110, 101, 99, 116, 105, 120]⟩ ?hd ?hs Z 5 ?hg ?hle ?hfit ?_; (case hd => rfl); (case hs => rfl); (case hg => exact alloc_new _ _); (case hle => decide); (case hfit => exact HZS.out); intro w1 hg1 hw1)
  have h1 : BlkIs w1 w.heap.size (cook ++ List.replicate 504 0) := by
    have h := hg1.out
    rw [HZ.out] at h
    unfold BlkIs
    rw [h]
    congr 3
  have hB1 : Below w.heap.size w w1 := ((Below.refl _ _).alloc (Nat.le_refl _) _).trans (hw1.below (by simp) (fun k hk e => by omega))
  clear hg1 hw1
  refine (high512 w.heap.size (cook ++ List.replicate 504 0) 8 4 8 4 2 w1 h1 rfl rfl (by decide) (by decide) (by simp only [laid_length, List.length_append, List.length_replicate]; rfl) (by decide)).mono ?_
  rintro e w2 ⟨rfl, h2, hw2⟩
  have hB2 := hB1.trans (hw2.below hB1.size (fun k hk e => by omega))
  go_wp2_with fail
  refine (high512 w.heap.size (laid (cook ++ List.replicate 504 0) 8 4 2 4) 12 4 12 4 65536 w2 h2 rfl rfl (by decide) (by decide) (by simp only [laid_length, List.length_append, List.length_replicate]; rfl) (by decide)).mono ?_
  rintro e w3 ⟨rfl, h3, hw3⟩
  have hB3 := hB2.trans (hw3.below hB2.size (fun k hk e => by omega))
  go_wp2_with fail
  refine (high512 w.heap.size (laid (laid (cook ++ List.replicate 504 0) 8 4 2 4) 12 4 65536 4) 16 8 16 8 m64 w3 h3 rfl rfl (by decide) (by decide) (by simp only [laid_length, List.length_append, List.length_replicate]; rfl) (by decide)).mono ?_
  rintro e w4 ⟨rfl, h4, hw4⟩
  have hB4 := hB3.trans (hw4.below hB3.size (fun k hk e => by omega))
  go_wp2_with fail
  refine (high512 w.heap.size (laid (laid (laid (cook ++ List.replicate 504 0) 8 4 2 4) 12 4 65536 4) 16 8 m64 8) 32 4 32 4 655360 w4 h4 rfl rfl (by decide) (by decide) (by simp only [laid_length, List.length_append, List.length_replicate]; rfl) (by decide)).mono ?_
  rintro e w5 ⟨rfl, h5, hw5⟩
  have hB5 := hB4.trans (hw5.below hB4.size (fun k hk e => by omega))
  have q2 := HZZ.out
  go_wp2_with fail
  refine (high512 w.heap.size (laid (laid (laid (laid (cook ++ List.replicate 504 0) 8 4 2 4) 12 4 65536 4) 16 8 m64 8) 32 4 655360 4) 40 8 40 8 z w5 h5 rfl rfl (by decide) (by decide) (by simp only [laid_length, List.length_append, List.length_replicate]; rfl) ⟨hz1, hz2⟩).mono ?_
  rintro e w6 ⟨rfl, h6, hw6⟩
  have hB6 := hB5.trans (hw6.below hB5.size (fun k hk e => by omega))
  go_wp2_with fail
  refine (high512 w.heap.size (laid (laid (laid (laid (laid (cook ++ List.replicate 504 0) 8 4 2 4) 12 4 65536 4) 16 8 m64 8) 32 4 655360 4) 40 8 z 8) 48 8 48 8 z w6 h6 rfl rfl (by decide) (by decide) (by simp only [laid_length, List.length_append, List.length_replicate]; rfl) ⟨hz1, hz2⟩).mono ?_
  rintro e w7 ⟨rfl, h7, hw7⟩
  have hB7 := hB6.trans (hw7.below hB6.size (fun k hk e => by omega))
  go_wp2_with fail
  refine (high512 w.heap.size (laid (laid (laid (laid (laid (laid (cook ++ List.replicate 504 0) 8 4 2 4) 12 4 65536 4) 16 8 m64 8) 32 4 655360 4) 40 8 z 8) 48 8 z 8) 60 4 60 4 2 w7 h7 rfl rfl (by decide) (by decide) (by simp only [laid_length, List.length_append, List.length_replicate]; rfl) (by decide)).mono ?_
  rintro e w8 ⟨rfl, h8, hw8⟩
  have hB8 := hB7.trans (hw8.below hB7.size (fun k hk e => by omega))
  have hA : BlkIs w8 w.heap.size (specA z) := h8
  clear q2 hz1 hz2 hmk' h1 h2 h3 h4 h5 h6 h7 h8 hB1 hB2 hB3 hB4 hB5 hB6 hB7 hw2 hw3 hw4 hw5 hw6 hw7 hw8
  go_wp2_with fail
  have HA := Lib.hid hA
  clear hA
  go_cut [] (fun wx => BlkIs wx w.heap.size L ∧ Below w.heap.size w wx)
  case first =>
    go_region_law (first
      | (go_simp; go_at_call 9; refine (sixteen16 A n c bs _ (hb.below hB8.drew) hn).mono ?_; rintro e w9 ⟨g2, rfl, h9, hg2, hB9⟩; have hA9 : BlkIs w9 w.heap.size (specA z) := (hB9.block _ (lt_of_heap HA.out)).trans HA.out; have hL9 := hB8.drew.trans (hB9.mono hB8.size))
      | (refine step_copy_run rfl (.tmp 31) (.tmp 33) 22 22 rfl (.slice (some ⟨w.heap.size, 68, none⟩) 444 444) (.slice (some ⟨g2, 0, none⟩) 16 16) (by simp [Act.eval, Act.put]) (by simp [Act.eval, Act.put]) _ (copy16 _ w.heap.size 68 g2 444 (specA z) (pad16 bs) hA9 h9 (pad16_length bs) (by decide) (by rw [specA_length]; decide)) ?_; rintro v10 w10 ⟨h10, hw10⟩))
    all_goals
      go_wp2_with fail
      go_meet
      exact ⟨by rw [← HL.out]; exact h10, hL9.trans (hw10.below hL9.size (fun k hk e => by omega))⟩
  case rest =>
    obtain ⟨h10, hL10⟩ := hcut
    have H10 := Lib.hid h10
    clear h10
    go_wp2_with fail
    go_loop [6, 37] (fun s i => SumRel L s i) (fun _ i => 512 - (intOf i).toNat)
    case atStart => exact ⟨0, by decide, rfl, rfl⟩
    case round =>
      obtain ⟨k, hk, rfl, rfl⟩ := hrel
      by_cases hlt : k < 512
      · have hkL : k < L.length := by rw [HBL.out]; exact hlt
        obtain ⟨c0, hc0⟩ : ∃ c0, L[k] = c0 := ⟨_, rfl⟩
        have x0 := H10.out.cell k hkL
        rw [hc0] at x0
        obtain ⟨hr1, hr2⟩ := HFIT.out c0 (by rw [← hc0]; exact List.getElem_mem hkL)
        have hsn := sumTo_snoc (L.take k) c0
        have hts : L.take (k + 1) = L.take k ++ [c0] := by rw [← hc0]; exact List.take_succ_eq_append_getElem hkL
        rw [← hts] at hsn
        have HSN := Lib.hid hsn
        obtain ⟨hs1, hs2⟩ := sumTo_bd (L.take k)
        clear hsn hts hc0 hkL
        clear HZS HZ HSZ HFIT HL HF HFL HZZ HA hs hn hb hB8 hL10 H10
        go_wp2
        exact ⟨⟨k + 1, by omega, by go_num, by rw [HSN.out]⟩, by simp [intOf]; omega⟩
      · obtain rfl : k = 512 := by omega
        have htk : L.take 512 = L := List.take_of_length_le (by rw [HBL.out]; exact Nat.le_refl _)
        rw [htk]
        obtain ⟨chk, hchk⟩ : ∃ chk, bits BinOp.xor IntKind.u32 IntKind.u32.max (sumTo L) = chk := ⟨_, rfl⟩
        have hb32 := bits_u32 IntKind.u32.max (sumTo L)
        rw [hchk] at hb32
        obtain ⟨hb1, hb2⟩ := hb32
        have hF2 : laid L 64 4 chk 4 = F := by rw [← hchk]; exact HF.out
        have HF2 := Lib.hid hF2
        clear hF2 htk HZS HZ HSZ HFIT HL HZZ HA hs hn hb hB8
        have q5 := u64_same chk hb1 hb2
        go_wp2_with fail
        clear hchk q5
        refine (high512 w.heap.size L 64 4 64 4 chk wc H10.out rfl rfl (by decide) (by decide) HBL.out (by omega)).mono ?_
        rintro e w11 ⟨rfl, h11, hw11⟩
        rw [HF2.out] at h11
        go_wp2_with fail
        go_ret
        exact ⟨w.heap.size, by rw [HFL.out]; rfl, h11, Nat.le_refl _, hL10.trans (hw11.below hL10.size (fun k hk e => by omega))⟩
end Go.Proofs.Ytjpahogldfmaeab
