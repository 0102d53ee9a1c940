/- FnVerityBack: the superblock and its bytes. -/
import Derived.Test.YtfanlhkpblemgaaDoorVdWalk
import Derived.Deep.CutRange
import Derived.Deep.DeepCutAuto
import Derived.Deep.RegionLaw
namespace Go.Proofs.YtfanlhkpblemgaaDoor
open Go.RowKit Go.Rd
set_option linter.unusedVariables false
set_option linter.unusedSimpArgs false
open Go.Proofs.YtfanlhkpblemgaaDoorW.PrintWords Go.Proofs.YtfanlhkpblemgaaDoorW.PrintLast Go.Proofs.YtfanlhkpblemgaaDoorW.PrintMore

theorem Row.drew {base : Nat} {w : World} {v : Value} {l : List Int} (h : Row base w v l) : Row base w.drew v l := h
section
variable {W : World}
/-- An append of bytes, as a run. -/
theorem run_bytes (base : Nat) (ty : TypeId) (v : Value) (l : List Int) (hR : Row base W v l) (A : Option Addr) (m c : Nat) (r : List Int) (hB : BytesIn W A m c r) (hl : l.length + m ≤ 140737488355328) (hbase : base ≤ W.heap.size) :
    ∃ v' w', (Builtin.append_ #[22, 22] ty #[v, .slice A m c]).run Tryd.prog W = .ok v' w' ∧ Row base w' v' (l ++ r) ∧ Below base W w' := by
  obtain ⟨v', w', hr, h2, h3, _⟩ := run_src (P := Tryd.prog) (w := W) 22 ty 5 base Tryd.underlying22 infoB v l.length _ hR.1 A m c r hB hl hbase
  have hlen := hB.len
  refine ⟨v', w', hr, ⟨?_, fit_app hR.2 hB.fits⟩, hR.grown h3 hbase⟩
  rw [List.length_append, hlen, List.map_append]
  exact h2
/-- An append of so many zeros. -/
theorem app_zeros {ops : Array Oper} {rest : List Oper} {o : Oper} {a : Act} {Q : Exit → Act → World → Prop} (base : Nat) (hgd : o.guard = none) (s x : Operand) (ho : o.op = .call { callee := .builtin .append, args := #[s, x], argTypes := #[22, 3] })
    (v : Value) (l : List Int) (hs : a.eval s = v) (hR : Row base W v l) (m : Nat) (hx : a.eval x = .int .i64 (m : Int)) (hl : l.length + m ≤ 140737488355328) (hbase : base ≤ W.heap.size)
    (h : ∀ v1 w1, Row base w1 v1 (l ++ List.replicate m 0) → Below base W w1 → wpList Tryd.prog ops Q rest (a.put o.dst v1) w1) : wpList Tryd.prog ops Q (o :: rest) a W := by
  obtain ⟨i0, hi, hzz⟩ := Option.map_eq_some_iff.1 infoB
  simp only [Prod.mk.injEq] at hzz
  have hz : (Builtin.zeroCells (Value.int .u8 0).cells m).toList = (List.replicate m (0 : Int)).map (Value.int .u8) := by
    rw [List.map_replicate]
    show (Builtin.zeroCells #[Value.int .u8 0] m).toList = _
    apply List.ext_getElem?
    intro j
    by_cases hj : j < m
    · simp [Builtin.zeroCells, hj, Nat.mod_one]
    · simp [Builtin.zeroCells, hj]
  have hone : ∀ u ∈ (Builtin.zeroCells (Value.int .u8 0).cells m).toList, u.oneCell' = true := by
    rw [hz]
    intro u hu
    obtain ⟨x, _, rfl⟩ := List.mem_map.1 hu
    rfl
  obtain ⟨v1, w1, hr1, h1, hg, hat⟩ := run_append_zeros (P := Tryd.prog) W base 22 3 o.type 5 i0 (.int .u8 0) 1 1 Tryd.underlying22 Tryd.underlying3 hi hzz.1 hzz.2.1 hzz.2.2 rfl (by decide) (by decide) v l.length _ hR.1 .i64 m hone (by omega) hbase
  refine wpList_plain hgd fun K hK => ?_
  unfold Oper.wp execOp
  simp only [ho, resolve, invoke, builtin, Sem.run_bind, Sem.run_pure, Result.andThen_ok, List.map_toArray, List.map_cons, List.map_nil, hs, hx, hr1]
  refine hK _ _ (h v1 w1 ⟨?_, fit_app hR.2 (fit_zeros m)⟩ (hR.grown hg hbase))
  rw [hz] at h1
  rw [List.length_append, List.length_replicate, List.map_append]
  exact h1
end
theorem le32_fit (x : Int) (h : 0 ≤ x ∧ x ≤ 4294967295) : Fit8 (le32 x) := by
  intro c hc
  simp [le32] at hc
  omega
theorem le32_length (x : Int) : (le32 x).length = 4 := rfl
set_option maxRecDepth 100000 in
set_option maxHeartbeats 1000000 in
theorem put32_any (base : Nat) (v : Value) (l : List Int) (x : Int) (w : World) (h : Row base w v l) (hB : base ≤ w.heap.size) (hl : l.length ≤ 100000) (hx : 0 ≤ x ∧ x ≤ 4294967295) :
    Calls Tryd.prog 59 #[v, .int .u32 x] w fun e w' => ∃ v', e = .returned v' ∧ Row base w' v' (l ++ le32 x) ∧ Below base w w' := by
  have hf := le32_fit x hx
  have e1 : le32 x = [x % 256, x / 256 % 256, x / 65536 % 256, x / 16777216] := by
    have : x / 16777216 % 256 = x / 16777216 := by omega
    simp [le32, this]
  rw [e1] at hf ⊢
  clear e1
  obtain ⟨hx1, hx2⟩ := hx
  have HF := Lib.hid hf
  clear hf
  have HL := Lib.hid (show l.length + 4 ≤ 140737488355328 by omega)
  have hbx : Below w.heap.size w (w.alloc (.cells ([x % 256, x / 256 % 256, x / 65536 % 256, x / 16777216].map (Value.int .u8)).toArray 5)) := (Below.refl _ _).alloc (Nat.le_refl _) _
  go_enter Tryd.func59, Tryd.ntmps59
  go_wp2_with (at_builtin; refine app_bytes base rfl (.tmp 5) (.tmp 17) rfl v l rfl (h.below hbx) (some ⟨w.heap.size, 0, none⟩) 4 4 [x % 256, x / 256 % 256, x / 65536 % 256, x / 16777216] rfl (bytes_lit _ HF.out (by simp)) HL.out (Nat.le_trans hB hbx.size) ?_; intro v1 w1 hR1 hg1 hB1)
  go_ret
  exact ⟨_, rfl, hR1, ((Below.refl _ _).alloc hB _).trans hB1⟩

def u8s (l : List Int) : List Value := l.map (Value.int .u8)
/-- A superblock's cells. -/
def sbL (sig : List Int) (ver ht : Int) (uid alg : List Int) (dbs hbs db ss : Int) (salt : List Int) : List Value :=
  u8s sig ++ ([.int .u32 ver, .int .u32 ht] ++ (u8s uid ++ (u8s alg ++ ([.int .u32 dbs, .int .u32 hbs, .int .u64 db, .int .u16 ss] ++ u8s salt))))
def algZ : List Int := algV ++ List.replicate 26 0
def z256 : List Int := List.replicate 256 0
/-- The superblock of so many blocks. -/
def SbIs (w : World) (b : Nat) (u : List Int) (n : Int) : Prop := w.heap[b]? = some (.cells (sbL sigV 1 1 u algZ 4096 4096 n 32 z256).toArray 109 (0, 0))
theorem SbIs.below {w w' : World} {b B : Nat} {u : List Int} {n : Int} (h : SbIs w b u n) (hb : Below B w w') (hB : b < B) : SbIs w' b u n := (hb.block b hB).trans h
theorem seg_bytes {w : World} {b : Nat} {L pre post : List Value} {seg : List Int} (h : w.heap[b]? = some (.cells L.toArray 109 (0, 0))) (e : L = pre ++ (u8s seg ++ post)) (hf : Fit8 seg) (hl : seg.length ≤ 1000) (off n : Nat) (ho : pre.length = off) (hn : seg.length = n) :
    BytesIn w (some ⟨b, off, none⟩) n n seg := by
  subst e
  subst hn
  refine ⟨rfl, fun e => (by cases e), Nat.le_refl _, by unfold maxLen; omega, fun x hx j u hu => ?_, hf⟩
  cases hx
  rw [addr_add, cell_of h]
  simp only [List.getElem?_toArray]
  have hj : j < (u8s seg).length := (List.getElem?_eq_some_iff.1 hu).1
  rw [List.getElem?_append_right (by omega), List.getElem?_append_left (by omega), ← hu]
  congr 1
  omega
theorem fit_of {l : List Int} (h : l.all (fun c => decide (0 ≤ c ∧ c ≤ 255)) = true) : Fit8 l := fun c hc => of_decide_eq_true (List.all_eq_true.1 h c hc)
theorem algZ_fit : Fit8 algZ := fit_app (fit_of (by decide)) (fit_zeros 26)
theorem z256_len : z256.length = 256 := List.length_replicate
theorem SbIs.scalars {w : World} {b : Nat} {u : List Int} {n : Int} (h : SbIs w b u n) (hu : u.length = 16) :
    w.cell? ⟨b, 8, none⟩ = some (.int .u32 1) ∧ w.cell? ⟨b, 9, none⟩ = some (.int .u32 1) ∧ w.cell? ⟨b, 58, none⟩ = some (.int .u32 4096) ∧ w.cell? ⟨b, 59, none⟩ = some (.int .u32 4096) ∧ w.cell? ⟨b, 60, none⟩ = some (.int .u64 n) ∧ w.cell? ⟨b, 61, none⟩ = some (.int .u16 32) := by
  unfold SbIs sbL at h
  have l1 : (u8s sigV).length = 8 := rfl
  have l2 : (u8s u).length = 16 := by simp [u8s, hu]
  have l3 : (u8s algZ).length = 32 := rfl
  generalize u8s z256 = Z at h
  generalize u8s sigV = S at h l1
  generalize u8s algZ = G at h l3
  generalize u8s u = U at h l2
  refine ⟨?_, ?_, ?_, ?_, ?_, ?_⟩ <;> rw [cell_of h] <;> simp [List.getElem?_append, l1, l2, l3]
theorem SbIs.segs {w : World} {b : Nat} {u : List Int} {n : Int} (h : SbIs w b u n) (hu : u.length = 16) (hf : Fit8 u) :
    BytesIn w (some ⟨b, 0, none⟩) 8 8 sigV ∧ BytesIn w (some ⟨b, 10, none⟩) 16 16 u ∧ BytesIn w (some ⟨b, 26, none⟩) 32 32 algZ ∧ BytesIn w (some ⟨b, 62, none⟩) 256 256 z256 := by
  unfold SbIs at h
  have l1 : (u8s sigV).length = 8 := rfl
  have l2 : (u8s u).length = 16 := by simp [u8s, hu]
  have l3 : (u8s algZ).length = 32 := rfl
  refine ⟨?_, ?_, ?_, ?_⟩
  · exact seg_bytes (pre := []) (post := [.int .u32 1, .int .u32 1] ++ (u8s u ++ (u8s algZ ++ ([.int .u32 4096, .int .u32 4096, .int .u64 n, .int .u16 32] ++ u8s z256)))) h rfl (fit_of (by decide)) (by decide) 0 8 rfl rfl
  · exact seg_bytes (pre := u8s sigV ++ [.int .u32 1, .int .u32 1]) (post := u8s algZ ++ ([.int .u32 4096, .int .u32 4096, .int .u64 n, .int .u16 32] ++ u8s z256)) h (by simp only [sbL, List.append_assoc]) hf (by omega) 10 16 rfl hu
  · exact seg_bytes (pre := u8s sigV ++ ([.int .u32 1, .int .u32 1] ++ u8s u)) (post := [.int .u32 4096, .int .u32 4096, .int .u64 n, .int .u16 32] ++ u8s z256) h (by simp only [sbL, List.append_assoc]) algZ_fit (by decide) 26 32 (by simp only [List.length_append, l1, l2, List.length_cons, List.length_nil]) rfl
  · exact seg_bytes (pre := u8s sigV ++ ([.int .u32 1, .int .u32 1] ++ (u8s u ++ (u8s algZ ++ [.int .u32 4096, .int .u32 4096, .int .u64 n, .int .u16 32])))) (post := []) h (by simp only [sbL, List.append_assoc, List.append_nil]) (show Fit8 z256 from fit_zeros 256) (by rw [z256_len]; decide) 62 256 (by simp only [List.length_append, l1, l2, l3, List.length_cons, List.length_nil]) z256_len
/-- So far. -/
def Sofar (w : World) (l : List Int) (v : Value) (wx : World) : Prop := Row w.heap.size wx v l ∧ Below w.heap.size w wx
def BytesPost (l : List Int) (w : World) (e : Ending) (w' : World) : Prop := ∃ v, e = .returned v ∧ Row w.heap.size w' v l ∧ Below w.heap.size w w'

end Go.Proofs.YtfanlhkpblemgaaDoor
