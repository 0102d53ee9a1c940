/- FnVerityBack: the UUID, and a new superblock. -/
import Derived.Test.YtfanlhkpblemgaaDoorVgWalk
import Derived.Laws.CopyOwn
import Derived.Lib.BufferWrite
import Derived.Laws.Closers25b
namespace Go.Proofs.YtfanlhkpblemgaaDoor
open Go.RowKit Go.Rd
set_option linter.unusedVariables false
set_option linter.unusedSimpArgs false
open Go.Proofs.YtfanlhkpblemgaaDoorW.PrintWords Go.Proofs.YtfanlhkpblemgaaDoorW.PrintLast Go.Proofs.YtfanlhkpblemgaaDoorW.PrintMore

/-- copy(dst, s) of a string that fits, into a row that is known whole. -/
theorem wpList_copy_str {P : Program} {w : World} {ops : Array Oper} {rest : List Oper} {o : Oper} {a : Act} {Q : Exit → Act → World → Prop} (hgd : o.guard = none) (d s : Operand) (dT sT : TypeId)
    (ho : o.op = .call { callee := .builtin .copy, args := #[d, s], argTypes := #[dT, sT] }) (elem : TypeId) (hu : P.underlying dT = some (.slice elem)) (hsz : (P.info? elem).map (·.size) = some 1)
    (g off dLen dCap : Nat) (str : ByteArray) (hd : a.eval d = .slice (some ⟨g, off, none⟩) dLen dCap) (hs : a.eval s = .string str)
    (cur : Array Value) (t : TypeId) (hg : w.heap[g]? = some (.cells cur t (0, 0))) (hle : str.size ≤ dLen) (hfit : off + str.size ≤ cur.size)
    (h : ∀ w', Hid (w'.heap[g]? = some (.cells (cur.toList.take off ++ Lib.byteCells str.data.toList ++ cur.toList.drop (off + str.size)).toArray t (0, 0))) → Wrote (fun k => k = g) w w' → wpList P ops Q rest (a.put o.dst (goInt str.size)) w') : wpList P ops Q (o :: rest) a w := by
  refine wpList_plain hgd fun K hK => ?_
  have hrun := Lib.run_copy_row_string (P := P) w dT sT o.type elem g off dLen dCap str cur t hu hsz hg hle hfit
  unfold Oper.wp
  simp only [execOp, ho, resolve, invoke, builtin, Sem.run_bind, Sem.run_pure, Result.andThen_ok, List.map_toArray, List.map_cons, List.map_nil, hd, hs, hrun]
  refine hK _ _ (h _ (Lib.hid ?_) ⟨rfl, rfl, rfl, by simp [World.setRow], fun k _ hk => setRow_other _ _ _ _ hk⟩)
  rw [setRow_heap _ _ _ _ _ _ hg]

/-- A struct built, by its run. -/
theorem wpList_build {P : Program} {w : World} {ops : Array Oper} {rest : List Oper} {o : Oper} {a : Act} {Q : Exit → Act → World → Prop} (hgd : o.guard = none) (t : TypeId) (parts : Array (Nat × Operand)) (ho : o.op = .build t parts)
    (vs : Array (Nat × Value)) (v : Value) (hvs : (parts.map fun x => (x.1, a.eval x.2)) = vs) (hrun : (Instr.build t vs).run P w = .ok v w) (h : wpList P ops Q rest (a.put o.dst v) w) : wpList P ops Q (o :: rest) a w := by
  refine wpList_plain hgd fun K hK => ?_
  subst hvs
  unfold Oper.wp
  simp only [execOp, ho, Sem.run_bind, hrun, Result.andThen_ok]
  exact hK _ _ h

theorem two_new0 (w : World) (o1 o2 : Obj) : ((w.alloc o1).alloc o2).heap[w.heap.size + 1]? = some o2 := by
  have := alloc_new (w.alloc o1) o2
  rwa [World.size_alloc] at this
def uidOf (a : Nat → Int) : List Int := [a 0, a 1, a 2, a 3, a 4, a 5, a 6, a 7, a 8, a 9, a 10, a 11, a 12, a 13, a 14, a 15]
def uidV (a : Nat → Int) : Value := .agg #[.int .u8 (a 0), .int .u8 (a 1), .int .u8 (a 2), .int .u8 (a 3), .int .u8 (a 4), .int .u8 (a 5), .int .u8 (a 6), .int .u8 (a 7), .int .u8 (a 8), .int .u8 (a 9), .int .u8 (a 10), .int .u8 (a 11), .int .u8 (a 12), .int .u8 (a 13), .int .u8 (a 14), .int .u8 (a 15)]
/-- The first sixteen bytes, with zeros behind fewer. -/
def pad16 (bs : List Int) : List Int := bs.take 16 ++ List.replicate (16 - bs.length) 0
theorem pad16_length (bs : List Int) : (pad16 bs).length = 16 := by unfold pad16; simp; omega
def padAt (bs : List Int) (j : Nat) : Int := (pad16 bs).getD j 0
theorem uidOf_pad (bs : List Int) : uidOf (padAt bs) = pad16 bs := by
  have hl := pad16_length bs
  unfold uidOf padAt
  generalize pad16 bs = l at *
  match l, hl with
  | [x0, x1, x2, x3, x4, x5, x6, x7, x8, x9, x10, x11, x12, x13, x14, x15], _ => rfl
theorem pad16_fits {bs : List Int} (h : ∀ c ∈ bs, 0 ≤ c ∧ c ≤ 255) : ∀ c ∈ pad16 bs, 0 ≤ c ∧ c ≤ 255 := by
  intro c hc
  rcases List.mem_append.1 hc with g | g
  · exact h c (List.mem_of_mem_take g)
  · rw [(List.mem_replicate.1 g).2]; decide

theorem two_below (w : World) (o1 o2 : Obj) : Below w.heap.size w ((w.alloc o1).alloc o2) := ((Below.refl _ _).alloc (Nat.le_refl _) o1).alloc (by simp) o2
theorem pos_src {w W : World} {A : Option Addr} {n c : Nat} {bs : List Int} (hb : BytesIn w A n c bs) (hl : bs.length = n) (hB : Below w.heap.size w W) (h : 0 < ((bs.take 16).map (Value.int .u8)).length) :
    ∃ ad, A = some ad ∧ ∀ j v, ((bs.take 16).map (Value.int .u8))[j]? = some v → W.cell? (ad.add j) = some v := by
  cases A with
  | none => have := (hb.nil rfl).1; simp at h; omega
  | some ad =>
    refine ⟨ad, rfl, fun j v hv => (hb.below hB).cells ad rfl j v ?_⟩
    rw [List.map_take] at hv
    have hj : j < 16 := by
      rcases Nat.lt_or_ge j 16 with g | g
      · exact g
      · rw [List.getElem?_eq_none (by simp; omega)] at hv; cases hv
    rwa [List.getElem?_take_of_lt hj] at hv

theorem pad_cell {w1 : World} {g : Nat} {bs : List Int} (h : w1.heap[g]? = some (.cells (splice [.int .u8 0, .int .u8 0, .int .u8 0, .int .u8 0, .int .u8 0, .int .u8 0, .int .u8 0, .int .u8 0, .int .u8 0, .int .u8 0, .int .u8 0, .int .u8 0, .int .u8 0, .int .u8 0, .int .u8 0, .int .u8 0] 0 ((bs.take 16).map (Value.int .u8))).toArray 69 (0, 0))) (j : Nat) (hj : j < 16) : w1.cell? ⟨g, j, none⟩ = some (.int .u8 (padAt bs j)) := by
  have e : splice [.int .u8 0, .int .u8 0, .int .u8 0, .int .u8 0, .int .u8 0, .int .u8 0, .int .u8 0, .int .u8 0, .int .u8 0, .int .u8 0, .int .u8 0, .int .u8 0, .int .u8 0, .int .u8 0, .int .u8 0, .int .u8 0] 0 ((bs.take 16).map (Value.int .u8)) = (pad16 bs).map (Value.int .u8) := by
    unfold splice pad16
    have hz : ([.int .u8 0, .int .u8 0, .int .u8 0, .int .u8 0, .int .u8 0, .int .u8 0, .int .u8 0, .int .u8 0, .int .u8 0, .int .u8 0, .int .u8 0, .int .u8 0, .int .u8 0, .int .u8 0, .int .u8 0, .int .u8 0] : List Value) = List.replicate 16 (.int .u8 0) := rfl
    rw [hz, List.take_zero, List.nil_append, List.drop_replicate, List.map_append, List.map_replicate]
    congr 2
    simp
    omega
  rw [e] at h
  rw [cell_of h]
  have hl := pad16_length bs
  unfold padAt
  simp [List.getD_eq_getElem?_getD, List.getElem?_eq_getElem (show j < (pad16 bs).length by omega)]

set_option maxRecDepth 100000 in
set_option maxHeartbeats 2000000 in
theorem uuid_any (A : Option Addr) (n c : Nat) (bs : List Int) (w : World) (hb : BytesIn w A n c bs) (hn : n ≤ 100) :
    Calls Tryd.prog 35 #[.slice A n c] w fun e w' => e = .returned (uidV (padAt bs)) ∧ Below w.heap.size w w' := by
  have hsz : (Tryd.prog.info? 5).map (·.size) = some 1 := by kernel_rfl
  have HSZ := Lib.hid hsz
  have hbl := hb.len
  have HBL := Lib.hid hbl
  clear hsz hbl
  go_enter Tryd.func35, Tryd.ntmps35
  go_wp2_with (refine wpList_copy_splice rfl (.tmp 4) (.tmp 5) 22 22 rfl 5 Tryd.underlying22 HSZ.out (some ⟨w.heap.size + 1, 0, none⟩) A 16 16 n c rfl rfl (w.heap.size + 1) 0 [.int .u8 0, .int .u8 0, .int .u8 0, .int .u8 0, .int .u8 0, .int .u8 0, .int .u8 0, .int .u8 0, .int .u8 0, .int .u8 0, .int .u8 0, .int .u8 0, .int .u8 0, .int .u8 0, .int .u8 0, .int .u8 0] 69 (two_new0 w _ _) ((bs.take 16).map (Value.int .u8)) ?hn ?hpos ?hfit ?h1 (w.heap.size + 1) _ (Below.refl _ _) (Nat.le_refl _) ?_; (case hn => simp [HBL.out]; exact Nat.min_comm _ _); (case hpos => exact fun h => ⟨rfl, pos_src hb HBL.out (two_below w _ _) h⟩); (case hfit => simp; omega); (case h1 => intro v hv; obtain ⟨x, _, rfl⟩ := List.mem_map.1 hv; rfl); intro w1 hg1 hB1; have hPC := pad_cell hg1.out; have hz := (hB1.block w.heap.size (by omega)).trans (alloc_keeps (alloc_new w _) _); have y0 := hPC 0 (by decide); have y1 := hPC 1 (by decide); have y2 := hPC 2 (by decide); have y3 := hPC 3 (by decide); have y4 := hPC 4 (by decide); have y5 := hPC 5 (by decide); have y6 := hPC 6 (by decide); have y7 := hPC 7 (by decide); have y8 := hPC 8 (by decide); have y9 := hPC 9 (by decide); have y10 := hPC 10 (by decide); have y11 := hPC 11 (by decide); have y12 := hPC 12 (by decide); have y13 := hPC 13 (by decide); have y14 := hPC 14 (by decide); have y15 := hPC 15 (by decide); have z0 := (cell_of hz 0).trans rfl; have f0 := free_of hz 0; have z1 := (cell_of hz 1).trans rfl; have f1 := free_of hz 1; have z2 := (cell_of hz 2).trans rfl; have f2 := free_of hz 2; have z3 := (cell_of hz 3).trans rfl; have f3 := free_of hz 3; have z4 := (cell_of hz 4).trans rfl; have f4 := free_of hz 4; have z5 := (cell_of hz 5).trans rfl; have f5 := free_of hz 5; have z6 := (cell_of hz 6).trans rfl; have f6 := free_of hz 6; have z7 := (cell_of hz 7).trans rfl; have f7 := free_of hz 7; have z8 := (cell_of hz 8).trans rfl; have f8 := free_of hz 8; have z9 := (cell_of hz 9).trans rfl; have f9 := free_of hz 9; have z10 := (cell_of hz 10).trans rfl; have f10 := free_of hz 10; have z11 := (cell_of hz 11).trans rfl; have f11 := free_of hz 11; have z12 := (cell_of hz 12).trans rfl; have f12 := free_of hz 12; have z13 := (cell_of hz 13).trans rfl; have f13 := free_of hz 13; have z14 := (cell_of hz 14).trans rfl; have f14 := free_of hz 14; have z15 := (cell_of hz 15).trans rfl; have f15 := free_of hz 15; clear hPC hg1 hz)
  have hB0 : Below w.heap.size w w1 := (two_below w _ _).trans (hB1.mono (by omega))
  refine bodyPost_ret (v := uidV (padAt bs)) (by simp [results, Tryd.results35, go_sem, uidV, z0, z1, z2, z3, z4, z5, z6, z7, z8, z9, z10, z11, z12, z13, z14, z15]) rfl ⟨rfl, ?_⟩
  repeat (first | with_reducible exact hB0 | (with_reducible refine Below.setCell ?_ ?_ _; rotate_left; exact Nat.le_refl _))

end Go.Proofs.YtfanlhkpblemgaaDoor
