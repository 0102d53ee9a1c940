/- FnVerityBack: rows of bytes of one's own; the digest, and the hash of two rows. -/
import Derived.Test.YtfanlhkpblemgaaDoorAp
import Derived.Test.YtfanlhkpblemgaaDoorProg
import Derived.Test.YtfanlhkpblemgaaDoorVbPlain
import Derived.WalkKit
import Derived.RegionTactic
import Derived.WalkLawsBesides
import Derived.WalkSpells
import Derived.ProofKit
import Derived.Outline
import Derived.IntWalk
namespace Go.Proofs.YtfanlhkpblemgaaDoor
open Go.RowKit Go.Rd
set_option linter.unusedVariables false
set_option linter.unusedSimpArgs false
open Go.Proofs.YtfanlhkpblemgaaDoorW.PrintWords Go.Proofs.YtfanlhkpblemgaaDoorW.PrintLast Go.Proofs.YtfanlhkpblemgaaDoorW.PrintMore

theorem infoB : (Tryd.prog.info? 5).map (fun i => (i.zero, i.size, i.bytes)) = some (some (.int .u8 0), 1, 1) := by kernel_rfl
theorem sizeB : (Tryd.prog.info? 5).map (·.size) = some 1 := by kernel_rfl
theorem und22 : Tryd.prog.underlying 22 = some (.slice (Tryd.prog.elem 22)) := by kernel_rfl
theorem size22 (W : World) : (sizeOf (Tryd.prog.elem 22)).run Tryd.prog W = .ok 1 W := by kernel_rfl
/-- A row of bytes of the call's own. -/
def Row (base : Nat) (w : World) (v : Value) (l : List Int) : Prop := w.ownsRow base 5 1 v l.length (l.map (Value.int .u8)) ∧ Fit8 l
theorem Row.nil (base : Nat) (w : World) : Row base w (.slice none 0 0) [] := ⟨World.ownsRow_nil _ _ _ _, fun c hc => by simp at hc⟩
theorem Row.slice {base : Nat} {w : World} {v : Value} {l : List Int} (h : Row base w v l) : ∃ A c, v = .slice A l.length c := own_slice h.1
theorem Row.below {base : Nat} {w w' : World} {v : Value} {l : List Int} (h : Row base w v l) (hb : Below w.heap.size w w') : Row base w' v l :=
  ⟨own_move h.1 (fun k hk => hb.block k (own_lt h.1 k hk)), h.2⟩
theorem Row.lower {base base' : Nat} {w : World} {v : Value} {l : List Int} (h : Row base w v l) (hb : base' ≤ base) : Row base' w v l := ⟨row_le h.1 hb, h.2⟩
theorem Row.grown {base : Nat} {w w' : World} {v : Value} {l : List Int} (h : Row base w v l) (hg : w.grownBy w' v.ownBlock) (hB : base ≤ w.heap.size) : Below base w w' :=
  ⟨hg.os, hg.tape, hg.output, hg.size, fun k hk => hg.block k (by omega) (fun e => by have := own_base h.1 k e.symm; omega)⟩
theorem Row.bytes {base : Nat} {w : World} {v : Value} {l : List Int} (h : Row base w v l) : ∃ A c, v = .slice A l.length c ∧ BytesIn w A l.length c l := BytesIn.own h.1 h.2
theorem fit_app {l m : List Int} (h1 : Fit8 l) (h2 : Fit8 m) : Fit8 (l ++ m) := by
  intro c hc
  rcases List.mem_append.1 hc with g | g
  · exact h1 c g
  · exact h2 c g
theorem fit_zeros (n : Nat) : Fit8 (List.replicate n 0) := fun c hc => by rw [(List.mem_replicate.1 hc).2]; decide
/-- Bytes without the first ones. -/
theorem BytesIn.dropped {w : World} {A : Option Addr} {n c : Nat} {l : List Int} (h : BytesIn w A n c l) (k : Nat) (hk : k ≤ n) :
    ∃ A', (∀ W : World, (Instr.slice 22 (.slice A n c) (some (.int .i64 (k : Int))) none none).run Tryd.prog W = .ok (.slice A' (n - k) (c - k)) W) ∧ BytesIn w A' (n - k) (c - k) (l.drop k) := by
  have hl := h.len
  have hle := h.le
  refine ⟨if c = k then A else A.map (·.add (k * 1)), fun W => ?_, ?_⟩
  · rw [run_slice_l W 22 A n c und22 .i64 (k : Int) (by omega) (by omega), size22]
    simp [Result.andThen, sliced]
  · refine ⟨by simp [hl], fun e => ?_, by omega, by have := h.max; omega, fun x hx j u hu => ?_, fun y hy => h.fits y (List.mem_of_mem_drop hy)⟩
    · have hn : A = none := by
        split at e
        · exact e
        · cases A <;> simp at e ⊢
      have := h.nil hn
      omega
    · have hj : k + j < n := by
        have := (List.getElem?_eq_some_iff.1 hu).1
        simp at this
        omega
      rw [if_neg (by omega)] at hx
      cases A with
      | none => cases hx
      | some y =>
        cases hx
        rw [Nat.mul_one]
        have e : (y.add k).add j = y.add (k + j) := by
          obtain ⟨b, off, e, _, _⟩ := h.form (by omega)
          cases e
          rw [addr_add, addr_add, addr_add, Nat.add_assoc]
        rw [e]
        refine h.cells y rfl (k + j) u ?_
        rw [List.map_drop, List.getElem?_drop] at hu
        exact hu
/-- The first ones of some bytes. -/
theorem BytesIn.taken {w : World} {A : Option Addr} {n c : Nat} {l : List Int} (h : BytesIn w A n c l) (k : Nat) (h0 : 0 < k) (hk : k ≤ n) :
    (∀ W : World, (Instr.slice 22 (.slice A n c) none (some (.int .i64 (k : Int))) none).run Tryd.prog W = .ok (.slice A k c) W) ∧ BytesIn w A k c (l.take k) := by
  have hl := h.len
  have hle := h.le
  refine ⟨fun W => ?_, ?_⟩
  · rw [run_slice_h W 22 A n c und22 .i64 (k : Int) (by omega) (by omega), size22]
    obtain ⟨b, off, e, _, _⟩ := h.form (by omega)
    subst e
    simp [Result.andThen, sliced, Addr.add]
  · refine ⟨by simp [hl]; omega, fun e => ?_, by omega, h.max, fun x hx j u hu => ?_, fun y hy => h.fits y (List.mem_of_mem_take hy)⟩
    · have := h.nil e
      omega
    · refine h.cells x hx j u ?_
      rw [List.map_take] at hu
      have hj : j < k := by
        have := (List.getElem?_eq_some_iff.1 hu).1
        simp at this
        omega
      rwa [List.getElem?_take_of_lt hj] at hu

section
variable {ops : Array Oper} {rest : List Oper} {o : Oper} {a : Act} {Q : Exit → Act → World → Prop} {W : World}
/-- An append of bytes onto a row of one's own. -/
theorem app_bytes (base : Nat) (hgd : o.guard = none) (s x : Operand) (ho : o.op = .call { callee := .builtin .append, args := #[s, x], argTypes := #[22, 22] })
    (v : Value) (l : List Int) (hs : a.eval s = v) (hR : Row base W v l) (A : Option Addr) (m c : Nat) (r : List Int) (hx : a.eval x = .slice A m c) (hB : BytesIn W A m c r)
    (hl : l.length + m ≤ 140737488355328) (hbase : base ≤ W.heap.size)
    (h : ∀ v1 w1, Row base w1 v1 (l ++ r) → W.grownBy w1 v.ownBlock → Below base W w1 → wpList Tryd.prog ops Q rest (a.put o.dst v1) w1) : wpList Tryd.prog ops Q (o :: rest) a W := by
  obtain ⟨i0, hi, hzz⟩ := Option.map_eq_some_iff.1 infoB
  simp only [Prod.mk.injEq] at hzz
  refine append_src hgd s x 22 ho base 5 i0 (.int .u8 0) 1 1 Tryd.underlying22 hi hzz.1 hzz.2.1 hzz.2.2 rfl (by decide) v l.length _ hs hR.1 A m c (r.map (Value.int .u8)) hx (hB.src).1 (hB.src).2.1 (hB.src).2.2.1 (hB.src).2.2.2 (by unfold maxLen; omega) (by omega) hbase ?_
  intro v1 w1 ho1 hg
  have hlen := hB.len
  refine h v1 w1 ⟨?_, fit_app hR.2 hB.fits⟩ hg (hR.grown hg hbase)
  rw [List.length_append, hlen, List.map_append]
  exact ho1
/-- A literal's bytes. -/
theorem bytes_lit (l : List Int) (hf : Fit8 l) (hl : l.length ≤ 1000) : BytesIn (W.alloc (.cells (l.map (Value.int .u8)).toArray 5)) (some ⟨W.heap.size, 0, none⟩) l.length l.length l :=
  ⟨rfl, fun e => (by cases e), Nat.le_refl _, by unfold maxLen; omega, fun x hx j u hu => by cases hx; exact cells_new W _ 5 W.heap.size rfl _ rfl j u hu, hf⟩
end

theorem wrap_u64_bd (x : Int) : 0 ≤ IntKind.u64.wrap x ∧ IntKind.u64.wrap x < 18446744073709551616 := by
  have e : IntKind.u64.wrap x = x % 18446744073709551616 := by simp [IntKind.wrap, IntKind.bits, IntKind.signed]
  rw [e]
  omega
/-- A word behind some bytes. -/
def fnv (x : Int) (l : List Int) : Int := l.foldl (fun x c => IntKind.u64.wrap (bits .xor .u64 x c * 1099511628211)) x
theorem fnv_snoc (x : Int) (l : List Int) (c : Int) : fnv x (l ++ [c]) = IntKind.u64.wrap (bits .xor .u64 (fnv x l) c * 1099511628211) := by
  unfold fnv; rw [List.foldl_append]; rfl
def InU64 (x : Int) : Prop := 0 ≤ x ∧ x < 18446744073709551616
theorem fnv_bd {x : Int} (h : InU64 x) (l : List Int) : InU64 (fnv x l) := by
  rcases List.eq_nil_or_concat l with rfl | ⟨l', c, rfl⟩
  · exact h
  · rw [List.concat_eq_append, fnv_snoc]; exact wrap_u64_bd _
/-- So many of a word's bytes, the highest first. -/
def wby (x : Int) : Nat → List Int
  | 0 => []
  | m + 1 => wby x m ++ [x / 2 ^ (56 - 8 * m) % 256]
theorem wby_length (x : Int) (m : Nat) : (wby x m).length = m := by
  induction m with
  | zero => rfl
  | succ m ih => simp [wby, ih]
theorem wby_fit (x : Int) (m : Nat) : Fit8 (wby x m) := by
  induction m with
  | zero => intro c hc; simp [wby] at hc
  | succ m ih => exact fit_app ih (fun c hc => by simp at hc; subst hc; omega)
theorem fit_one (x : Int) : Fit8 [x % 256] := fun c hc => by simp at hc; subst hc; omega
/-- What so many words make of some bytes. -/
def dig (W : Nat → Int) (l : List Int) : Nat → List Int
  | 0 => []
  | n + 1 => dig W l n ++ wby (fnv (W n) l) 8
theorem dig_length (W : Nat → Int) (l : List Int) (n : Nat) : (dig W l n).length = 8 * n := by
  induction n with
  | zero => rfl
  | succ n ih => simp [dig, ih, wby_length]; omega
theorem dig_fit (W : Nat → Int) (l : List Int) (n : Nat) : Fit8 (dig W l n) := by
  induction n with
  | zero => intro c hc; simp [dig] at hc
  | succ n ih => exact fit_app ih (wby_fit _ _)
def digest (W : Nat → Int) (l : List Int) : List Int := dig W l 4
theorem digest_is (W : Nat → Int) : IsHash (digest W) := ⟨fun l => dig_length W l 4, fun l => dig_fit W l 4⟩

def DigCells (W : Nat → Int) : Array Value := #[.int .u64 (W 0), .int .u64 (W 1), .int .u64 (W 2), .int .u64 (W 3)]
/-- A boxed digest. -/
structure WordsAt (w : World) (b : Nat) (W : Nat → Int) : Prop where
  blk : w.heap[b]? = some (.cells (DigCells W) 38 (0, 0))
  bd : ∀ i, i < 4 → InU64 (W i)
theorem WordsAt.below {w w' : World} {b B : Nat} {W : Nat → Int} (h : WordsAt w b W) (hb : Below B w w') (hB : b < B) : WordsAt w' b W := ⟨(hb.block b hB).trans h.blk, h.bd⟩

theorem word_at (W : Nat → Int) (k : Nat) (hk : k < 4) (W0 : World) : (Instr.index 101 (.agg #[.int .u64 (W 0), .int .u64 (W 1), .int .u64 (W 2), .int .u64 (W 3)]) (.int .i64 (k : Int))).run Tryd.prog W0 = .ok (.int .u64 (W k)) W0 := by
  rcases k with _ | _ | _ | _ | k
  · kernel_rfl
  · kernel_rfl
  · kernel_rfl
  · kernel_rfl
  · omega
def FRel (x : Int) (l : List Int) (v i : Value) : Prop := ∃ k : Nat, k ≤ l.length ∧ i = .int .i64 k ∧ v = .int .u64 (fnv x (l.take k))
def BRel (base : Nat) (pre : List Int) (x : Int) (w : World) (v i : Value) (wr : World) : Prop := ∃ k : Nat, k ≤ 8 ∧ i = .int .i64 (7 - (k : Int)) ∧ Row base wr v (pre ++ wby x k) ∧ Below base w wr
/-- The loop over the words. -/
def WRel (W : Nat → Int) (l : List Int) (w : World) (v i : Value) (wr : World) : Prop := ∃ k : Nat, k ≤ 4 ∧ i = .int .i64 k ∧ Row w.heap.size wr v (dig W l k) ∧ Below w.heap.size w wr
def DigPost (W : Nat → Int) (l : List Int) (w : World) (e : Ending) (w' : World) : Prop := ∃ v, e = .returned v ∧ Row w.heap.size w' v (digest W l) ∧ Below w.heap.size w w'
set_option maxRecDepth 100000 in
set_option maxHeartbeats 2000000 in
theorem dig_any (A : Option Addr) (n c : Nat) (l : List Int) (b : Nat) (W : Nat → Int) (w : World) (hb : BytesIn w A n c l) (hW : WordsAt w b W) :
    Calls Tryd.prog 47 #[.slice A n c, .pointer (some ⟨b, 0, none⟩)] w (DigPost W l w) := by
  have g0 := cell_of hW.blk 0
  have g1 := cell_of hW.blk 1
  have g2 := cell_of hW.blk 2
  have g3 := cell_of hW.blk 3
  simp only [DigCells] at g0 g1 g2 g3
  have HB := Lib.hid hb
  have HW := Lib.hid hW
  clear hb hW
  go_enter Tryd.func47, Tryd.ntmps47
  go_wp2_with fail
  go_loopw [4, 19] (fun v i wr => WRel W l w v i wr) (fun _ i _ => 4 - (intOf i).toNat)
  case atStart => exact ⟨0, by decide, rfl, Row.nil _ _, Below.refl _ _⟩
  case round =>
    obtain ⟨k, hk, rfl, hR, hBw⟩ := hrel
    obtain ⟨wo, hwo⟩ : ∃ x, x = wr := ⟨_, rfl⟩
    subst hwo
    by_cases hlt : k < 4
    · have hix := word_at W k hlt
      have hbd := HW.out.bd k hlt
      obtain ⟨x, hx⟩ : ∃ x, W k = x := ⟨_, rfl⟩
      rw [hx] at hix hbd
      have HX := Lib.hid hx
      clear hx
      have HBD := Lib.hid hbd
      clear hbd g0 g1 g2 g3
      have hll := HB.out.len
      go_wp2_with fail
      go_loop [6, 24] (fun v i => FRel x l v i) (fun _ i => n - (intOf i).toNat)
      case atStart => exact ⟨0, Nat.zero_le _, rfl, rfl⟩
      case round =>
        obtain ⟨j, hj, rfl, rfl⟩ := hrel
        by_cases hjl : j < n
        · obtain ⟨b1, off, rfl, hb1, hcl⟩ := HB.out.form (by omega)
          obtain ⟨c0, hc0⟩ : ∃ c0, l[j]'(by omega) = c0 := ⟨_, rfl⟩
          have x0 : wo.cell? ⟨b1, off + j, none⟩ = some (.int .u8 c0) := (hBw.cell (p := ⟨b1, off + j, none⟩) hb1).trans (hcl j c0 (by rw [← hc0]; exact List.getElem?_eq_getElem (by omega)))
          obtain ⟨hr1, hr2⟩ := HB.out.fits c0 (by rw [← hc0]; exact List.getElem_mem _)
          have hsn := fnv_snoc x (l.take j) c0
          have hts : l.take (j + 1) = l.take j ++ [c0] := by rw [← hc0]; exact List.take_succ_eq_append_getElem (by omega)
          rw [← hts] at hsn
          have HSN := Lib.hid hsn
          clear hsn hts hcl hc0
          obtain ⟨y, hy⟩ : ∃ y, fnv x (l.take j) = y := ⟨_, rfl⟩
          have hyb := fnv_bd HBD.out (l.take j)
          rw [hy] at hyb ⊢
          obtain ⟨hy1, hy2⟩ := hyb
          have HY := Lib.hid hy
          clear hy
          have hj1 := Lib.hid (show j + 1 ≤ l.length by omega)
          have hj2 := Lib.hid (show n - (j + 1) < n - j by omega)
          have hmx : n ≤ 9223372036854775807 := by have h1 := HB.out.le; have h2 := HB.out.max; unfold maxLen at h2; omega
          clear hll
          go_wp2
          exact ⟨⟨j + 1, hj1.out, by go_num, by rw [HSN.out, HY.out]⟩, by simp [intOf]; omega⟩
        · obtain rfl : j = n := by omega
          have htk : l.take j = l := List.take_of_length_le (by omega)
          rw [htk]
          clear htk
          obtain ⟨y, hy⟩ : ∃ y, fnv x l = y := ⟨_, rfl⟩
          have hyb := fnv_bd HBD.out l
          rw [hy] at hyb ⊢
          obtain ⟨hy1, hy2⟩ := hyb
          have HY := Lib.hid hy
          clear hy
          go_wp2_with fail
          go_loopw [4, 9] (fun v i wr => BRel w.heap.size (dig W l k) y w v i wr) (fun _ i _ => (intOf i + 1).toNat)
          case atStart => exact ⟨0, by decide, rfl, by rw [show wby y 0 = [] from rfl, List.append_nil]; exact hR, hBw⟩
          case round =>
            obtain ⟨m, hm, rfl, hR2, hB2⟩ := hrel
            by_cases hml : m < 8
            · have e0 : (7 : Int) - (m : Int) = ((7 - m : Nat) : Int) := by omega
              have HQ := Lib.hid (show wby y (m + 1) = wby y m ++ [y / 2 ^ (56 - 8 * m) % 256] from rfl)
              obtain ⟨d, hd⟩ : ∃ d, d = 7 - m := ⟨_, rfl⟩
              rw [← hd] at e0
              have hd7 : d ≤ 7 := by omega
              rw [show 56 - 8 * m = 8 * d by omega] at HQ
              rw [e0]
              have HD := Lib.hid hd
              clear hd e0
              have hfit := fit_one (y / 2 ^ (8 * d))
              have HF := Lib.hid hfit
              have hln := Lib.hid (show (dig W l k ++ wby y m).length + 1 ≤ 140737488355328 by rw [List.length_append, dig_length, wby_length]; omega)
              clear hfit
              have hzz := hB2.size
              go_wp2_with (at_builtin; refine app_bytes w.heap.size rfl (.tmp 38) (.tmp 44) rfl u4 (dig W l k ++ wby y m) rfl (hR2.below ((Below.refl _ _).alloc (Nat.le_refl _) _)) (some ⟨wr.heap.size, 0, none⟩) 1 1 [y / 2 ^ (8 * d) % 256] rfl (bytes_lit _ HF.out (by simp)) hln.out (by simp; omega) ?_; intro v1 w1 hR3 hg3 hB3)
              have hrr : Row w.heap.size w1 v1 (dig W l k ++ wby y (m + 1)) := by rw [HQ.out, ← List.append_assoc]; exact hR3
              have hbb : Below w.heap.size w w1 := (hB2.alloc hzz _).trans hB3
              clear hR3 hB3 hg3
              go_wp2_with fail
              go_roundw
              case rel => exact ⟨m + 1, by omega, by have := HD.out; go_num, hrr, hbb⟩
              case measure => simp [intOf]
            · obtain rfl : m = 8 := by omega
              rw [show (7 : Int) - ((8 : Nat) : Int) = -1 from rfl]
              go_wp2_with fail
              go_roundw
              case rel => exact ⟨k + 1, by omega, by go_num, by rw [show dig W l (k + 1) = dig W l k ++ wby (fnv (W k) l) 8 from rfl, HX.out, HY.out]; exact hR2, hB2⟩
              case measure => simp [intOf]; omega
    · obtain rfl : k = 4 := by omega
      go_wp2_with fail
      go_ret
      exact ⟨_, rfl, hR, hBw⟩

/-- The hash that hangs on a boxed digest. -/
def HashV (b : Nat) : Value := .func (.func 47) #[] #[.pointer (some ⟨b, 0, none⟩)]
def wordV (W : Nat → Int) : Value := .agg (DigCells W)
def MakePost (W : Nat → Int) (w : World) (e : Ending) (w' : World) : Prop := ∃ b, e = .returned (HashV b) ∧ w.heap.size ≤ b ∧ WordsAt w' b W ∧ Below w.heap.size w w'
set_option maxRecDepth 100000 in
set_option maxHeartbeats 2000000 in
theorem digest_any (W : Nat → Int) (hW : ∀ i, i < 4 → InU64 (W i)) (w : World) : Calls Tryd.prog 36 #[wordV W] w (MakePost W w) := by
  have HW := Lib.hid hW
  clear hW
  unfold wordV DigCells
  go_enter Tryd.func36, Tryd.ntmps36
  go_wp2_with fail
  go_ret
  exact ⟨_, rfl, Nat.le_refl _, ⟨alloc_new w _, HW.out⟩, (Below.refl _ _).alloc (Nat.le_refl _) _⟩

def HashPost (H : List Int → List Int) (l m : List Int) (w : World) (e : Ending) (w' : World) : Prop := ∃ v, e = .returned v ∧ Row w.heap.size w' v (H (l ++ m)) ∧ Below w.heap.size w w'
set_option maxRecDepth 100000 in
set_option maxHeartbeats 2000000 in
theorem hash2_q (A : Option Addr) (n c : Nat) (l : List Int) (A2 : Option Addr) (n2 c2 : Nat) (m : List Int) (b : Nat) (W : Nat → Int) (w : World) (h1 : BytesIn w A n c l) (h2 : BytesIn w A2 n2 c2 m) (hW : WordsAt w b W) (hn : n ≤ 100000) (hn2 : n2 ≤ 100000) (q : List Int) (hq : l ++ m = q) :
    Calls Tryd.prog 49 #[.slice A n c, .slice A2 n2 c2, HashV b] w (DigPost W q w) := by
  have HQ := Lib.hid hq
  have HL := Lib.hid (show l.length + n2 ≤ 140737488355328 by have := h1.len; omega)
  clear hq
  have H1 := Lib.hid h1
  have H2 := Lib.hid h2
  have HW := Lib.hid hW
  have hbl := lt_of_heap hW.blk
  clear h1 h2 hW
  unfold HashV
  go_enter Tryd.func49, Tryd.ntmps49
  go_wp2_with (first
    | (go_at_call 47; refine (dig_any A3 _ c3 q b W w2 hb3 (HW.out.below hB2 hbl)).mono ?_; rintro e w3 ⟨v, rfl, hR3, hB3⟩)
    | (at_builtin; refine app_bytes w.heap.size rfl (.tmp 9) (.tmp 10) rfl v1 l rfl hR1 A2 n2 c2 m rfl (H2.out.below hB1) HL.out hB1.size ?_; rw [HQ.out]; intro v2 w2 hR2 hg2 hB2'; obtain ⟨A3, c3, e3, hb3⟩ := hR2.bytes; subst e3; have hB2 := hB1.trans hB2')
    | (at_builtin; refine app_bytes w.heap.size rfl (.const (.slice none 0 0)) (.tmp 8) rfl (.slice none 0 0) [] rfl (Row.nil _ _) A n c l rfl H1.out (by simp; omega) (Nat.le_refl _) ?_; rw [List.nil_append]; intro v1 w1 hR1 hg1 hB1))
  go_ret
  exact ⟨_, rfl, hR3.lower hB2.size, hB2.trans (hB3.mono hB2.size)⟩
theorem hash2_any (A : Option Addr) (n c : Nat) (l : List Int) (A2 : Option Addr) (n2 c2 : Nat) (m : List Int) (b : Nat) (W : Nat → Int) (w : World) (h1 : BytesIn w A n c l) (h2 : BytesIn w A2 n2 c2 m) (hW : WordsAt w b W) (hn : n ≤ 100000) (hn2 : n2 ≤ 100000) :
    Calls Tryd.prog 49 #[.slice A n c, .slice A2 n2 c2, HashV b] w (HashPost (digest W) l m w) := hash2_q A n c l A2 n2 c2 m b W w h1 h2 hW hn hn2 _ rfl
end Go.Proofs.YtfanlhkpblemgaaDoor
