/- FnVhdFooter: the walks of the program's other functions: the UUID, the sum, the footer. -/
import Derived.Test.YtjpahogldfmaeabVaWalk
import Derived.Lib.BufferWrite
import Derived.Laws.Closers25b
namespace Go.Proofs.Ytjpahogldfmaeab
open Go.RowKit Go.Rd
set_option linter.unusedVariables false
open Go.Proofs.YtjpahogldfmaeabW.PrintWords Go.Proofs.YtjpahogldfmaeabW.PrintLast Go.Proofs.YtjpahogldfmaeabW.PrintMore

theorem wrote_set0 (w : World) (f o : Nat) (u : Value) : Wrote (fun k => k = f) w (w.setCell ⟨f, o, none⟩ u) := (Wrote.refl (fun k => k = f) w).setCell (fun _ => rfl) u
/-- The sum of bytes, as uint32 sums. -/
def sumTo (l : List Int) : Int := l.foldl (fun s c => (s + c) % 4294967296) 0
theorem sumTo_bd (l : List Int) : 0 ≤ sumTo l ∧ sumTo l ≤ 4294967295 := by
  unfold sumTo
  suffices h : ∀ (l : List Int) (s : Int), 0 ≤ s ∧ s ≤ 4294967295 → 0 ≤ l.foldl (fun s c => (s + c) % 4294967296) s ∧ l.foldl (fun s c => (s + c) % 4294967296) s ≤ 4294967295 from h l 0 (by decide)
  intro l
  induction l with
  | nil => intro s h; exact h
  | cons c l ih => intro s h; exact ih _ (by show 0 ≤ (s + c) % 4294967296 ∧ (s + c) % 4294967296 ≤ 4294967295; omega)
theorem sumTo_snoc (l : List Int) (c : Int) : sumTo (l ++ [c]) = (sumTo l + c) % 4294967296 := by
  unfold sumTo; rw [List.foldl_append]; rfl

theorem footB_length (cookie : List Int) (z chk : Int) (uid : List Int) (h1 : cookie.length = 8) (h2 : uid.length = 16) : (footB cookie z chk uid).length = 512 := by
  unfold footB
  simp only [List.length_append, be32_length, be64_length, h1, h2, List.length_replicate, List.length_cons, List.length_nil]

theorem footL_set (cookie : List Int) (size chk c : Int) (uid : List Int) (h1 : cookie.length = 8) : (footL cookie size chk uid).set 25 (.int .u32 c) = footL cookie size c uid := by
  obtain ⟨A, B, e, hAl⟩ : ∃ (A B : List Value), (∀ x, footL cookie size x uid = A ++ (.int .u32 x :: B)) ∧ A.length = 25 := by
    refine ⟨u8s cookie ++ ([.int .u32 2, .int .u32 65536, .int .i64 (-1), .int .u32 0] ++ (u8s [0, 0, 0, 0] ++ ([.int .u32 655360] ++ (u8s [0, 0, 0, 0] ++ [.int .i64 size, .int .i64 size, .int .u32 0, .int .u32 2])))), u8s uid ++ (u8s [0] ++ u8s (List.replicate 427 0)), fun x => ?_, by simp [u8s, h1]⟩
    simp only [footL, List.append_assoc]
    rfl
  rw [e chk, e c, List.set_append_right _ _ (by omega), hAl]
  rfl
theorem FootIs.setChk {w : World} {b : Nat} {cookie : List Int} {size chk : Int} {uid : List Int} (h : FootIs w b cookie size chk uid) (c : Int) : FootIs (w.setCell ⟨b, 25, none⟩ (.int .u32 c)) b cookie size c uid := by
  refine ⟨?_, h.lc, h.lu, h.fc, h.fu⟩
  have := Go.Rd.heap_setCell_same (o := 25) h.blk (.int .u32 c)
  rw [List.setIfInBounds_toArray, footL_set _ _ _ _ _ h.lc] at this
  exact this
/-- A number's complement. -/
def cpl (s : Int) : Int := bits BinOp.xor IntKind.u32 IntKind.u32.max s
/-- The state of the sum's loop. -/
def SumRel (L : List Int) (s i : Value) : Prop := ∃ k : Nat, k ≤ 512 ∧ i = .int .i64 k ∧ s = .int .u32 (sumTo (L.take k))

set_option maxRecDepth 100000 in
set_option maxHeartbeats 2000000 in
theorem check_any (b : Nat) (cookie : List Int) (size chk : Int) (uid : List Int) (w : World) (hF : FootIs w b cookie size chk uid) (hs : -9223372036854775808 ≤ size ∧ size ≤ 9223372036854775807) (hk : 0 ≤ chk ∧ chk ≤ 4294967295) :
    Calls Try.prog 12 #[.pointer (some ⟨b, 0, none⟩)] w fun e w' => e = .returned (.int .u32 (cpl (sumTo (footB cookie (IntKind.u64.wrap size) 0 uid)))) ∧ FootIs w' b cookie size chk uid ∧ Wrote (fun k => k = b) w w' := by
  obtain ⟨s8, s9, s10, s11, s16, s21, s22, s23, s24, s25, s42⟩ := hF.scalars
  have f25 := free_of hF.blk 25
  have hF1 := hF.setChk 0
  have hby := bytes_any b cookie size 0 uid (w.setCell ⟨b, 25, none⟩ (.int .u32 0)) hF1 hs (by decide)
  obtain ⟨L, hL⟩ : ∃ L, footB cookie (IntKind.u64.wrap size) 0 uid = L := ⟨_, rfl⟩
  have hLl : L.length = 512 := by rw [← hL]; exact footB_length _ _ _ _ hF.lc hF.lu
  rw [hL] at hby ⊢
  have hbl : b < w.heap.size := lt_of_heap hF.blk
  have hz1 : (w.setCell ⟨b, 25, none⟩ (.int .u32 0)).heap.size = w.heap.size := by simp [World.setCell]
  have HBY := Lib.hid hby
  have HLL := Lib.hid hLl
  have HF := Lib.hid hF
  have HF1 := Lib.hid hF1
  have HZ1 := Lib.hid hz1
  clear hL hLl hby hF hF1 s8 s9 s10 s11 s16 s21 s22 s23 s24 s42 hz1
  go_enter Try.func12, Try.ntmps12
  go_wp2_with fail
  refine HBY.out.mono ?_
  rintro e w1 ⟨v1, rfl, hR1, hB1⟩
  obtain ⟨A, c, ev, hb1⟩ := BytesIn.own hR1.1 hR1.2
  subst ev
  rw [HLL.out] at hb1
  obtain ⟨g, off, eA, hgl, hcell⟩ := hb1.form (by decide)
  subst eA
  have hF2 := HF1.out.below hB1 (by rw [HZ1.out]; exact hbl)
  have f25' := free_of hF2.blk 25
  obtain ⟨_, _, _, _, _, _, _, _, _, s25', _⟩ := hF2.scalars
  have HF2 := Lib.hid hF2
  clear hF2 hb1
  have HC := Lib.hid hcell
  clear hcell
  have hfit := hR1.2
  have HFIT := Lib.hid hfit
  clear hfit
  rw [HLL.out]
  go_wp2_with fail
  go_loop [5, 6] (fun s i => SumRel L s i) (fun _ i => 512 - (intOf i).toNat)
  case atStart => exact ⟨0, by decide, rfl, rfl⟩
  case round =>
    obtain ⟨k, hk, rfl, rfl⟩ := hrel
    by_cases hlt : k < 512
    · have hkL : k < L.length := by rw [HLL.out]; exact hlt
      obtain ⟨c0, hc0⟩ : ∃ c0, L[k] = c0 := ⟨_, rfl⟩
      have x0 := HC.out k c0 (by rw [← hc0]; exact List.getElem?_eq_getElem hkL)
      obtain ⟨hr1, hr2⟩ := HFIT.out c0 (by rw [← hc0]; exact List.getElem_mem hkL)
      have hsn := sumTo_snoc (L.take k) c0
      have hts : L.take (k + 1) = L.take k ++ [c0] := by rw [← hc0]; exact List.take_succ_eq_append_getElem hkL
      rw [← hts] at hsn
      have HSN := Lib.hid hsn
      obtain ⟨hs1, hs2⟩ := sumTo_bd (L.take k)
      clear hsn hts hc0 hkL
      go_wp2
      exact ⟨⟨k + 1, by omega, by go_num, by rw [HSN.out]⟩, by simp [intOf]; omega⟩
    · obtain rfl : k = 512 := by omega
      go_wp2
      go_ret
      rw [List.take_of_length_le (by rw [HLL.out]; exact Nat.le_refl _)]
      refine ⟨rfl, HF2.out.setChk chk, ?_⟩
      have hw1 := wrote_set0 w b 25 (.int .u32 0)
      exact (hw1.trans (Wrote.of_below (S := fun k => k = b) hB1)).setCell (fun _ => rfl) _

/-- copy(dst, s) of a string that fits, into a row that is known whole. -/
theorem wpList_copy_str {P : Program} {w : World} {ops : Array Oper} {rest : List Oper} {o : Oper} {a : Act} {Q : Exit → Act → World → Prop} (hgd : o.guard = none) (d s : Operand) (dT sT : TypeId)
    (ho : o.op = .call { callee := .builtin .copy, args := #[d, s], argTypes := #[dT, sT] }) (elem : TypeId) (hu : P.underlying dT = some (.slice elem)) (hsz : (P.info? elem).map (·.size) = some 1)
    (g off dLen dCap : Nat) (str : ByteArray) (hd : a.eval d = .slice (some ⟨g, off, none⟩) dLen dCap) (hs : a.eval s = .string str)
    (cur : Array Value) (t : TypeId) (hg : w.heap[g]? = some (.cells cur t (0, 0))) (hle : str.size ≤ dLen) (hfit : off + str.size ≤ cur.size)
    (h : ∀ w', Hid (w'.heap[g]? = some (.cells (cur.toList.take off ++ Lib.byteCells str.data.toList ++ cur.toList.drop (off + str.size)).toArray t (0, 0))) → Wrote (fun k => k = g) w w' → wpList P ops Q rest (a.put o.dst (goInt str.size)) w') : wpList P ops Q (o :: rest) a w := by
  refine wpList_plain hgd fun K hK => ?_
  have hrun := Lib.run_copy_row_string (P := P) w dT sT o.type elem g off dLen dCap str cur t hu hsz hg hle hfit
  unfold Oper.wp
  simp only [execOp, ho, resolve, invoke, builtin, Sem.run_bind, Sem.run_pure, Result.andThen_ok, List.map_toArray, List.map_cons, List.map_nil, hd, hs, hrun]
  refine hK _ _ (h _ (Lib.hid ?_) ⟨rfl, rfl, rfl, by simp [World.setRow], fun k _ hk => setRow_other _ _ _ _ hk⟩)
  rw [setRow_heap _ _ _ _ _ _ hg]

/-- A struct built, by its run. -/
theorem wpList_build {P : Program} {w : World} {ops : Array Oper} {rest : List Oper} {o : Oper} {a : Act} {Q : Exit → Act → World → Prop} (hgd : o.guard = none) (t : TypeId) (parts : Array (Nat × Operand)) (ho : o.op = .build t parts)
    (vs : Array (Nat × Value)) (v : Value) (hvs : (parts.map fun x => (x.1, a.eval x.2)) = vs) (hrun : (Instr.build t vs).run P w = .ok v w) (h : wpList P ops Q rest (a.put o.dst v) w) : wpList P ops Q (o :: rest) a w := by
  refine wpList_plain hgd fun K hK => ?_
  subst hvs
  unfold Oper.wp
  simp only [execOp, ho, Sem.run_bind, hrun, Result.andThen_ok]
  exact hK _ _ h

theorem two_new0 (w : World) (o1 o2 : Obj) : ((w.alloc o1).alloc o2).heap[w.heap.size + 1]? = some o2 := by
  have := alloc_new (w.alloc o1) o2
  rwa [World.size_alloc] at this
theorem foot_size (size chk : Int) (uid : List Int) : 0 + (⟨#[99, 111, 110, 101, 99, 116, 105, 120]⟩ : ByteArray).size ≤ (footL [0, 0, 0, 0, 0, 0, 0, 0] size chk uid).toArray.size := by
  show 8 ≤ (footL [0, 0, 0, 0, 0, 0, 0, 0] size chk uid).length
  have h : (u8s [0, 0, 0, 0, 0, 0, 0, 0]).length = 8 := rfl
  unfold footL
  rw [List.length_append]
  omega
def uidOf (a : Nat → Int) : List Int := [a 0, a 1, a 2, a 3, a 4, a 5, a 6, a 7, a 8, a 9, a 10, a 11, a 12, a 13, a 14, a 15]
def uidV (a : Nat → Int) : Value := .agg #[.int .u8 (a 0), .int .u8 (a 1), .int .u8 (a 2), .int .u8 (a 3), .int .u8 (a 4), .int .u8 (a 5), .int .u8 (a 6), .int .u8 (a 7), .int .u8 (a 8), .int .u8 (a 9), .int .u8 (a 10), .int .u8 (a 11), .int .u8 (a 12), .int .u8 (a 13), .int .u8 (a 14), .int .u8 (a 15)]
def cook : List Int := [99, 111, 110, 101, 99, 116, 105, 120]
theorem build_foot (size : Int) (a : Nat → Int) (W : World) : (Instr.build 39 #[(1, .int .u32 2), (2, .int .u32 65536), (3, .int .i64 (-1)), (6, .int .u32 655360), (8, .int .i64 size), (9, .int .i64 size), (11, .int .u32 2), (13, .agg #[.int .u8 (a 0), .int .u8 (a 1), .int .u8 (a 2), .int .u8 (a 3), .int .u8 (a 4), .int .u8 (a 5), .int .u8 (a 6), .int .u8 (a 7), .int .u8 (a 8), .int .u8 (a 9), .int .u8 (a 10), .int .u8 (a 11), .int .u8 (a 12), .int .u8 (a 13), .int .u8 (a 14), .int .u8 (a 15)])]).run Try.prog W = .ok (.agg (footL [0, 0, 0, 0, 0, 0, 0, 0] size 0 (uidOf a)).toArray) W := by kernel_rfl
theorem footL_cookie (c c' : List Int) (size chk : Int) (uid : List Int) (h : c.length = 8) : (footL c size chk uid).take 0 ++ u8s c' ++ (footL c size chk uid).drop 8 = footL c' size chk uid := by
  unfold footL
  rw [List.take_zero, List.nil_append, List.drop_append_of_le_length (by simp [u8s, h]), List.drop_eq_nil_of_le (by simp [u8s, h]), List.nil_append]

set_option maxRecDepth 100000 in
set_option maxHeartbeats 2000000 in
theorem make_any (size : Int) (a : Nat → Int) (w : World) (hs : -9223372036854775808 ≤ size ∧ size ≤ 9223372036854775807) (ha : ∀ c ∈ uidOf a, 0 ≤ c ∧ c ≤ 255) :
    Calls Try.prog 10 #[.int .i64 size, uidV a] w fun e w' => ∃ b, e = .returned (.pointer (some ⟨b, 0, none⟩)) ∧ w.heap.size ≤ b ∧ FootIs w' b cook size (cpl (sumTo (footB cook (IntKind.u64.wrap size) 0 (uidOf a)))) (uidOf a) ∧ Below w.heap.size w w' := by
  have hb := build_foot size a
  obtain ⟨chk, hchk⟩ : ∃ c, cpl (sumTo (footB cook (IntKind.u64.wrap size) 0 (uidOf a))) = c := ⟨_, rfl⟩
  rw [hchk]
  have HCHK := Lib.hid hchk
  clear hchk
  obtain ⟨FA, hFA⟩ : ∃ FA, (footL [0, 0, 0, 0, 0, 0, 0, 0] size 0 (uidOf a)).toArray = FA := ⟨_, rfl⟩
  rw [hFA] at hb
  have HFA := Lib.hid hFA
  have HA := Lib.hid ha
  clear hFA ha
  unfold uidV
  have HB := Lib.hid hb
  clear hb
  have hsz : (Try.prog.info? 5).map (·.size) = some 1 := by kernel_rfl
  have HSZ := Lib.hid hsz
  clear hsz
  go_enter Try.func10, Try.ntmps10
  go_wp2_with (first
    | ((with_reducible refine wpList_build rfl 39 _ rfl _ _ ?hv (HB.out _) ?_); (case hv => simp [Act.eval]))
    | ((refine wpList_copy_str rfl (.tmp 14) _ 22 9 rfl 5 Try.underlying22 HSZ.out (w.heap.size + 1) 0 8 8 ⟨#[99, 111, 110, 101, 99, 116, 105, 120]⟩ ?hd ?hs FA 39 ?hg ?hle ?hfit ?_); (case hd => rfl); (case hs => rfl); (case hg => exact two_new0 w _ _); (case hle => decide); (case hfit => rw [← HFA.out]; exact foot_size _ _ _); intro w1 hg1 hw1))
  have hF1 : FootIs w1 (w.heap.size + 1) cook size 0 (uidOf a) := by
    refine ⟨?_, rfl, rfl, by decide, HA.out⟩
    have h := hg1.out
    rw [← HFA.out] at h
    rw [h]
    congr 2
  have hB1 : Below w.heap.size w w1 := by
    have h2 : Below w.heap.size w ((w.alloc (.cells #[.int .u8 (a 0), .int .u8 (a 1), .int .u8 (a 2), .int .u8 (a 3), .int .u8 (a 4), .int .u8 (a 5), .int .u8 (a 6), .int .u8 (a 7), .int .u8 (a 8), .int .u8 (a 9), .int .u8 (a 10), .int .u8 (a 11), .int .u8 (a 12), .int .u8 (a 13), .int .u8 (a 14), .int .u8 (a 15)] 26)).alloc (.cells FA 39)) := ((Below.refl _ _).alloc (Nat.le_refl _) _).alloc (by simp) _
    exact h2.trans (hw1.below (by simp; omega) (fun k hk e => by omega))
  clear hg1 hw1
  refine (check_any (w.heap.size + 1) cook size 0 (uidOf a) w1 hF1 hs (by decide)).mono ?_
  rw [HCHK.out]
  rintro e w2 ⟨rfl, hF2, hW2⟩
  have f25 := free_of hF2.blk 25
  obtain ⟨_, _, _, _, _, _, _, _, _, s25, _⟩ := hF2.scalars
  have HF2 := Lib.hid hF2
  clear hF2 hF1
  go_wp2_with fail
  go_ret
  exact ⟨_, rfl, by omega, HF2.out.setChk _, (hB1.trans (hW2.below hB1.size (fun k hk e => by omega))).setCell (by simp only []; omega) _⟩

theorem bits_u32 (x y : Int) : 0 ≤ bits BinOp.xor IntKind.u32 x y ∧ bits BinOp.xor IntKind.u32 x y ≤ 4294967295 := by
  exact ⟨bits_lo_u32 _ _ _, bits_hi_u32 _ _ _⟩

set_option maxRecDepth 100000 in
set_option maxHeartbeats 2000000 in
theorem door_any (size : Int) (a : Nat → Int) (w : World) (hs : -9223372036854775808 ≤ size ∧ size ≤ 9223372036854775807) (ha : ∀ c ∈ uidOf a, 0 ≤ c ∧ c ≤ 255) :
    Calls Try.prog 6 #[.int .i64 size, uidV a] w fun e w' => ∃ v, e = .returned v ∧ Row w.heap.size w' v (footB cook (IntKind.u64.wrap size) (cpl (sumTo (footB cook (IntKind.u64.wrap size) 0 (uidOf a)))) (uidOf a)) ∧ Below w.heap.size w w' := by
  obtain ⟨chk, hchk⟩ : ∃ c, cpl (sumTo (footB cook (IntKind.u64.wrap size) 0 (uidOf a))) = c := ⟨_, rfl⟩
  have hm := make_any size a
  rw [hchk] at hm ⊢
  have hcb : 0 ≤ chk ∧ chk ≤ 4294967295 := by rw [← hchk]; exact bits_u32 _ _
  have HM := Lib.hid hm
  have HCB := Lib.hid hcb
  clear hm hchk hcb
  unfold uidV at *
  go_enter Try.func6, Try.ntmps6
  go_wp2_with fail
  refine (HM.out _ hs ha).mono ?_
  rintro e w1 ⟨b, rfl, hb, hF1, hB1⟩
  go_wp2_with fail
  refine (bytes_any b cook size chk (uidOf a) w1 hF1 hs HCB.out).mono ?_
  rintro e w2 ⟨v, rfl, hR, hB2⟩
  have hB0 : Below w.heap.size w w1 := ((Below.refl _ _).alloc (Nat.le_refl _) _).trans (hB1.mono (by simp))
  go_wp2_with fail
  go_ret
  exact ⟨_, rfl, ⟨row_le hR.1 hB0.size, hR.2⟩, hB0.trans (hB2.mono hB0.size)⟩
end Go.Proofs.Ytjpahogldfmaeab
