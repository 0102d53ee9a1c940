/- FnVerityBack: a superblock is read. -/
import Derived.Test.YtfanlhkpblemgaaDoorVjWalk
import Derived.Test.YtfanlhkpblemgaaDoorVhPlain
namespace Go.Proofs.YtfanlhkpblemgaaDoor
open Go.RowKit Go.Rd
set_option linter.unusedVariables false
set_option linter.unusedSimpArgs false
open Go.Proofs.YtfanlhkpblemgaaDoorW.PrintWords Go.Proofs.YtfanlhkpblemgaaDoorW.PrintLast Go.Proofs.YtfanlhkpblemgaaDoorW.PrintMore

theorem BytesIn.wrote {w w' : World} {A : Option Addr} {n c g : Nat} {l : List Int} (h : BytesIn w A n c l) (hw : Wrote (fun k => k = g) w w') (hne : ∀ x, A = some x → x.block ≠ g) : BytesIn w' A n c l :=
  ⟨h.len, h.nil, h.le, h.max, fun x hx j u hu => by
    have hc := h.cells x hx j u hu
    refine (World.cell?_of_block (hw.block _ (cell_lt hc) ?_)).trans hc
    rw [Go.Rd.add_block]
    exact hne x hx, h.fits⟩
theorem C_bytes {w : World} {A : Option Addr} {n c : Nat} {l : List Int} (h : BytesIn w A n c l) : Kd.C (Kd.int .u8) w A n l := by
  refine ⟨h.len, by have := h.le; have := h.max; simp [maxLen] at this; omega, fun hn => ?_⟩
  cases A with
  | none => have := (h.nil rfl).1; omega
  | some ad =>
    refine ⟨ad, rfl, fun j p hj => ⟨[.int .u8 p], rfl, rfl, fun i u hu => ?_⟩⟩
    have hi : i = 0 := by
      have := (List.getElem?_eq_some_iff.1 hu).1
      simp at this; omega
    subst hi
    cases hu
    have e : j * (Kd.int IntKind.u8).sz + 0 = j := by
      have : (Kd.int IntKind.u8).sz = 1 := rfl
      rw [this]; omega
    rw [e]
    exact h.cells ad rfl j _ (by simp [hj])
/-- A copy of bytes that fill a part of a block. -/
theorem cp_run {W : World} (ty : TypeId) (g off m cm : Nat) (A : Option Addr) (n c : Nat) (l : List Int) (hB : BytesIn W A n c l) (hmn : m ≤ n) (hm0 : 0 < m) (cur : Array Value) (t : TypeId) (hg : W.heap[g]? = some (.cells cur t (0, 0))) (hfit : off + m ≤ cur.size) :
    ∃ v' w', (Builtin.copy_ #[22, 22] ty #[.slice (some ⟨g, off, none⟩) m cm, .slice A n c]).run Tryd.prog W = .ok v' w' ∧ (v' = .int .i64 (m : Int) ∧ w'.heap[g]? = some (.cells (splice cur.toList off ((l.take m).map (Value.int .u8))).toArray t (0, 0)) ∧ Wrote (fun k => k = g) W w') := by
  have hl := hB.len
  cases A with
  | none => have := (hB.nil rfl).1; omega
  | some ad =>
    have hlen : ((l.take m).map (Value.int .u8)).length = m := by simp [hl]; omega
    obtain ⟨w', h1, h2, h3, _⟩ := copy_run (P := Tryd.prog) (w := W) (dT := 22) (sT := 22) (elem := 5) ty g off m cm n c ad cur t ((l.take m).map (Value.int .u8)) Tryd.underlying22 sizeB hg (by rw [hlen]; exact (Nat.min_eq_right hmn).symm) (fun j v hv => hB.cells ad rfl j v (by
      have hj := (List.getElem?_eq_some_iff.1 hv).1
      rw [List.map_take, List.getElem?_take_of_lt (by omega)] at hv
      exact hv)) (by rw [hlen]; exact hfit) (by intro v hv; obtain ⟨x, _, rfl⟩ := List.mem_map.1 hv; rfl)
    exact ⟨_, w', h1, by rw [hlen], h2, h3⟩
theorem cp_bytes {ops : Array Oper} {rest : List Oper} {o : Oper} {a : Act} {Q : Exit → Act → World → Prop} {W : World} (hgd : o.guard = none) (s x : Operand) (ho : o.op = .call { callee := .builtin .copy, args := #[s, x], argTypes := #[22, 22] })
    (g off m cm : Nat) (hs : a.eval s = .slice (some ⟨g, off, none⟩) m cm) (A : Option Addr) (n c : Nat) (l : List Int) (hx : a.eval x = .slice A n c) (hB : BytesIn W A n c l) (hmn : m ≤ n) (hm0 : 0 < m) (cur : Array Value) (t : TypeId) (hg : W.heap[g]? = some (.cells cur t (0, 0))) (hfit : off + m ≤ cur.size)
    (h : ∀ w', w'.heap[g]? = some (.cells (splice cur.toList off ((l.take m).map (Value.int .u8))).toArray t (0, 0)) → Wrote (fun k => k = g) W w' → wpList Tryd.prog ops Q rest (a.put o.dst (.int .i64 (m : Int))) w') : wpList Tryd.prog ops Q (o :: rest) a W := by
  obtain ⟨v', w', hr, rfl, h2, h3⟩ := cp_run o.type g off m cm A n c l hB hmn hm0 cur t hg hfit
  refine wpList_plain hgd fun K hK => ?_
  unfold Oper.wp
  simp only [execOp, ho, resolve, invoke, builtin, Sem.run_bind, Sem.run_pure, Result.andThen_ok, List.map_toArray, List.map_cons, List.map_nil, hs, hx, hr]
  exact hK _ _ (h _ h2 h3)

/-- Four bytes as a number. -/
def g32 (a b c d : Int) : Int := Go.bits .or .u32 (Go.bits .or .u32 (Go.bits .or .u32 (a % 4294967296) (((b % 4294967296) * 256) % 4294967296)) (((c % 4294967296) * 65536) % 4294967296)) (((d % 4294967296) * 16777216) % 4294967296)
def g32ok (x : Int) : Bool := g32 (x % 256) (x / 256 % 256) (x / 65536 % 256) (x / 16777216 % 256) == x
theorem g32_small : (List.range 301).all (fun n => g32ok (n : Int)) = true := by kernel_rfl
theorem g32_4096 : g32ok 4096 = true := by kernel_rfl
def Small (x : Int) : Prop := (0 ≤ x ∧ x ≤ 300) ∨ x = 4096
theorem g32_of (x : Int) (h : Small x) : g32 (x % 256) (x / 256 % 256) (x / 65536 % 256) (x / 16777216 % 256) = x := by
  have hk : g32ok x = true := by
    rcases h with ⟨h0, h1⟩ | rfl
    · have h := List.all_eq_true.1 g32_small x.toNat (List.mem_range.2 (by omega))
      rwa [show ((x.toNat : Nat) : Int) = x by omega] at h
    · exact g32_4096
  simpa [g32ok] using hk
theorem get32_f (x : Int) (h : Small x) (r : List Int) : PFnVerityBack.dmverity_get32.f (le32 x ++ r) = some x := by
  have hl : ((le32 x ++ r).length : Int) = 4 + (r.length : Int) := by simp [le32]; omega
  unfold PFnVerityBack.dmverity_get32.f
  rw [if_pos (by omega), if_pos (by omega), if_pos (by omega), if_pos (by omega)]
  exact congrArg some (g32_of x h)
theorem get32_any (x : Int) (hx : Small x) (r : List Int) (A : Option Addr) (n c : Nat) (w : World) (l : List Int) (hB : BytesIn w A n c l) (hl : l = le32 x ++ r) : Calls Tryd.prog 60 #[.slice A n c] w fun e w' => e = .returned (.int .u32 x) ∧ Drawn0 w w' := by
  have h1 := hB.len
  subst h1
  have h := PFnVerityBack.dmverity_get32.calls A c l x w (C_bytes hB) hB.le (by rw [hl]; exact get32_f x hx r)
  exact h

/-- The stages of a superblock that is read. -/
def pz : List Value := sbL [0, 0, 0, 0, 0, 0, 0, 0] 0 0 (List.replicate 16 0) z32 0 0 0 0 z256
def p1 : List Value := sbL sigV 0 0 (List.replicate 16 0) z32 0 0 0 0 z256
def p2 : List Value := sbL sigV 1 1 (List.replicate 16 0) z32 0 0 0 0 z256
def p3 (a : Nat → Int) : List Value := sbL sigV 1 1 (uidOf a) z32 0 0 0 0 z256
def p4 (a : Nat → Int) : List Value := sbL sigV 1 1 (uidOf a) algZ 0 0 0 0 z256
def p5 (a : Nat → Int) : List Value := sbL sigV 1 1 (uidOf a) algZ 4096 4096 0 0 z256
def p6 (a : Nat → Int) (n : Int) : List Value := sbL sigV 1 1 (uidOf a) algZ 4096 4096 n 0 z256
def p7 (a : Nat → Int) (n : Int) : List Value := sbL sigV 1 1 (uidOf a) algZ 4096 4096 n 32 z256
theorem build_z (W : World) : (Instr.build 109 #[]).run Tryd.prog W = .ok (.agg pz.toArray) W := by kernel_rfl
theorem pz_sig : splice pz 0 (sigV.map (Value.int .u8)) = p1 := by kernel_rfl
theorem p1_set : (p1.toArray.setIfInBounds 8 (.int .u32 1)).setIfInBounds 9 (.int .u32 1) = p2.toArray := by kernel_rfl
theorem p2_uid (a : Nat → Int) : splice p2 10 ((uidOf a).map (Value.int .u8)) = p3 a := by kernel_rfl
theorem p3_alg (a : Nat → Int) : splice (p3 a) 26 (algZ.map (Value.int .u8)) = p4 a := by kernel_rfl
theorem p4_set (a : Nat → Int) : ((p4 a).toArray.setIfInBounds 58 (.int .u32 4096)).setIfInBounds 59 (.int .u32 4096) = (p5 a).toArray := by kernel_rfl
theorem p5_set (a : Nat → Int) (n : Int) : (p5 a).toArray.setIfInBounds 60 (.int .u64 n) = (p6 a n).toArray := by kernel_rfl
theorem p6_set (a : Nat → Int) (n : Int) : (p6 a n).toArray.setIfInBounds 61 (.int .u16 32) = (p7 a n).toArray := by kernel_rfl
theorem p7_salt (a : Nat → Int) (n : Int) : splice (p7 a n) 62 (z256.map (Value.int .u8)) = p7 a n := by kernel_rfl
theorem pz_size : pz.toArray.size = 318 := by kernel_rfl
theorem p2_size : p2.toArray.size = 318 := by kernel_rfl
theorem p3_size (a : Nat → Int) : (p3 a).toArray.size = 318 := by kernel_rfl
theorem p7_size (a : Nat → Int) (n : Int) : (p7 a n).toArray.size = 318 := by kernel_rfl
/-- The superblock's parts. -/
theorem sup_0 (a : Nat → Int) (n : Int) (r : List Int) : (superB (uidOf a) n ++ r).take 8 = sigV := by kernel_rfl
theorem sup_8 (a : Nat → Int) (n : Int) (r : List Int) : (superB (uidOf a) n ++ r).drop 8 = le32 1 ++ ((superB (uidOf a) n ++ r).drop 12) := by kernel_rfl
theorem sup_12 (a : Nat → Int) (n : Int) (r : List Int) : (superB (uidOf a) n ++ r).drop 12 = le32 1 ++ ((superB (uidOf a) n ++ r).drop 16) := by kernel_rfl
theorem sup_16 (a : Nat → Int) (n : Int) (r : List Int) : ((superB (uidOf a) n ++ r).drop 16).take 16 = uidOf a := by kernel_rfl
theorem sup_32 (a : Nat → Int) (n : Int) (r : List Int) : ((superB (uidOf a) n ++ r).drop 32).take 32 = algZ := by kernel_rfl
theorem sup_64 (a : Nat → Int) (n : Int) (r : List Int) : (superB (uidOf a) n ++ r).drop 64 = le32 4096 ++ ((superB (uidOf a) n ++ r).drop 68) := by kernel_rfl
theorem sup_68 (a : Nat → Int) (n : Int) (r : List Int) : (superB (uidOf a) n ++ r).drop 68 = le32 4096 ++ ((superB (uidOf a) n ++ r).drop 72) := by kernel_rfl
theorem sup_72 (a : Nat → Int) (n : Int) (r : List Int) : (superB (uidOf a) n ++ r).drop 72 = le32 n ++ ((superB (uidOf a) n ++ r).drop 76) := by kernel_rfl
theorem sup_76 (a : Nat → Int) (n : Int) (r : List Int) : (superB (uidOf a) n ++ r).drop 76 = le32 0 ++ ((superB (uidOf a) n ++ r).drop 80) := by kernel_rfl
theorem sup_80 (a : Nat → Int) (n : Int) (r : List Int) : (superB (uidOf a) n ++ r)[80]? = some 32 := by kernel_rfl
theorem sup_81 (a : Nat → Int) (n : Int) (r : List Int) : (superB (uidOf a) n ++ r)[81]? = some 0 := by kernel_rfl
theorem sup_88 (a : Nat → Int) (n : Int) (r : List Int) : ((superB (uidOf a) n ++ r).drop 88).take 256 = z256 := by kernel_rfl
end Go.Proofs.YtfanlhkpblemgaaDoor
