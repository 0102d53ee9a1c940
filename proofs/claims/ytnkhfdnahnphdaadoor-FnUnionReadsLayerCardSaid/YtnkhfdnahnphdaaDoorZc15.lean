/- Parts of the proof, merged: Se2, Sf. -/
import Derived.Test.YtnkhfdnahnphdaaDoorZc14
section
namespace Go.Proofs.YtnkhfdnahnphdaaDoor
open Go.ChangeShapes Go.WideShapes Go.ChangeAt Go.RowKit Go.Rd
open Go.Proofs.YtnkhfdnahnphdaaDoorW.PrintWords Go.Proofs.YtnkhfdnahnphdaaDoorW.PrintLast Go.Proofs.YtnkhfdnahnphdaaDoorW.PrintMore
attribute [local go_sem] min_two min2_int
set_option linter.unusedVariables false
set_option linter.unusedSimpArgs false
namespace Sb
open Sa
theorem cut_low (A : Option Addr) (n c s : Nat) (h : s ≤ c) (W : World) : (Instr.slice 22 (.slice A n c) none (some (.int .i64 (s : Int))) none).run Tryd.prog W = .ok (.slice A s c) W := by
  have hu := Tryd.underlying22
  go_simp
theorem bytes_cut {w : World} {A : Option Addr} {m c s : Nat} {l : List Int} (h : BytesIn w A m c l) (hs : s ≤ m) : BytesIn w A s c (l.take s) :=
  ⟨by have := h.len; simp; omega, fun e => by have := h.nil e; exact ⟨by omega, this.2⟩, Nat.le_trans hs h.le, h.max, fun x hx j u hu => h.cells x hx j u (by
      rw [List.map_take] at hu
      have hj : j < s := by
        rcases Nat.lt_or_ge j s with h' | h'
        · exact h'
        · rw [List.getElem?_eq_none (by simp; omega)] at hu; cases hu
      rwa [List.getElem?_take_of_lt hj] at hu), fun x hx => h.fits x (List.mem_of_mem_take hx)⟩
theorem grow_cut {l : List Int} {k : Nat} (h : k < l.length) : grow (l.take k) k = cutTo l k := by
  unfold grow cutTo
  rw [show ((k : Int) - ((l.take k).length : Int)).toNat = k - l.length by simp; omega]
theorem grow_on {l : List Int} {k : Nat} (h : l.length ≤ k) : grow l k = cutTo l k := by
  unfold grow cutTo
  rw [List.take_of_length_le h, show ((k : Int) - (l.length : Int)).toNat = k - l.length by omega]
theorem grow_fit {l : List Int} (h : ∀ c ∈ l, 0 ≤ c ∧ c ≤ 255) (n : Int) : ∀ c ∈ grow l n, 0 ≤ c ∧ c ≤ 255 := by
  intro c hc
  unfold grow at hc
  rcases List.mem_append.1 hc with hc | hc
  · exact h c hc
  · rw [(List.mem_replicate.1 hc).2]; omega
theorem overw_lay (l : List Int) (a : Nat) (b : List Int) : overw l a b = lay l a b := by
  unfold overw lay sized grow
  have e : (((a : Int) + (b.length : Int)) - (l.length : Int)).toNat = a + b.length - l.length := by omega
  rw [e, List.take_append, List.drop_append, List.take_replicate, List.drop_replicate]
  have e1 : min (a - l.length) (a + b.length - l.length) = a - l.length := by omega
  have e2 : a + b.length - l.length - (a + b.length - l.length) = 0 := by omega
  rw [e1, e2]
  simp
set_option maxRecDepth 100000 in
set_option maxHeartbeats 2000000 in
theorem file_trunc_cut (m hb B mb : Nat) (nv av dv : Value) (l : List SN) (h : SH) (s : Stp) (w : World) (hop : s.op = 17) (hM : MemIs w m nv av dv mb) (hH : SHIs w hb h) (hN : NodesIs w B dv l) (hi : h.node < l.length) (hcl : h.cl = false) (hro : h.ro = false) (k : Nat) (hoff : s.off = (k : Int)) (hk : k ≤ 1000000) (h3 : l[h.node].bs.length ≤ 1000000) (hlen : k < l[h.node].bs.length) (hB : B ≤ w.heap.size) :
    Calls Tryd.prog 85 #[.pointer (some ⟨m, 0, none⟩), .pointer (some ⟨hb, 0, none⟩), s.val] w (FilePost w hb B dv l h.node ⟨0, 0, 0, []⟩ h { l[h.node] with bs := cutTo l[h.node].bs k, time := 0 }) := by
  obtain ⟨op, name, other, flag, perm, hh, da, dl, dc, off, wh, n⟩ := s
  obtain ⟨node, at_, listed, cl, ro⟩ := h
  simp only at hop hcl hro hoff h3 hlen hi ⊢
  subst hop hcl hro hoff
  unfold Stp.val
  simp only
  go_enter Tryd.func85, Tryd.ntmps85
  go_upto_region 1 with fail
  obtain ⟨W, hW⟩ : ∃ W, ((w.alloc (.cells #[.int .i64 17, .string name, .string other, .int .i64 flag, .int .i64 perm, .int .i64 hh, .slice da dl dc, .int .i64 (k : Int), .int .i64 wh, .int .i64 n] tStep)).alloc (.cells #[.int .i64 0, .int .i64 0, .int .i64 0, .slice none 0 0, .slice none 0 0, .slice none 0 0] tAns)) = W := ⟨_, rfl⟩
  have hs0 := two_old w (.cells #[.int .i64 17, .string name, .string other, .int .i64 flag, .int .i64 perm, .int .i64 hh, .slice da dl dc, .int .i64 (k : Int), .int .i64 wh, .int .i64 n] tStep) (.cells #[.int .i64 0, .int .i64 0, .int .i64 0, .slice none 0 0, .slice none 0 0, .slice none 0 0] tAns)
  have ha0 := two_new w (.cells #[.int .i64 17, .string name, .string other, .int .i64 flag, .int .i64 perm, .int .i64 hh, .slice da dl dc, .int .i64 (k : Int), .int .i64 wh, .int .i64 n] tStep) (.cells #[.int .i64 0, .int .i64 0, .int .i64 0, .slice none 0 0, .slice none 0 0, .slice none 0 0] tAns)
  have hB0 := two_below w (.cells #[.int .i64 17, .string name, .string other, .int .i64 flag, .int .i64 perm, .int .i64 hh, .slice da dl dc, .int .i64 (k : Int), .int .i64 wh, .int .i64 n] tStep) (.cells #[.int .i64 0, .int .i64 0, .int .i64 0, .slice none 0 0, .slice none 0 0, .slice none 0 0] tAns)
  rw [hW] at hs0 ha0 hB0
  have hW2 : ∀ {P} {c : Code} {Q : Exit → Act → World → Prop} {a : Act}, c.wp P Q a W → c.wp P Q a _ := fun {P c Q a} h => hW.symm ▸ h
  refine hW2 ?_
  clear hW2 hW
  have hM1 := hM.below hB0
  have hH1 := hH.below hB0
  have hN1 := NodesIs.below hN hB0
  obtain ⟨nb, cap, v, rfl, hle, hnb, ⟨x0, x1, x2, x3, x4⟩, hov, hf, hz⟩ := NodesIs.at hN1 hi
  obtain ⟨vA, vc, rfl, hby⟩ := BytesIn.own hov hf
  have HBY := Lib.hid hby
  clear hby
  have m2 := (cell_of hM1 2).trans rfl
  have c0 := (cell_of hH1 0).trans rfl
  have c1 := (cell_of hH1 1).trans rfl
  have c3 := (cell_of hH1 3).trans rfl
  have c4 := (cell_of hH1 4).trans rfl
  have f1 := free_of hH1 1
  have f3 := free_of hH1 3
  have s0 := (cell_of hs0 0).trans rfl
  have s6 := (cell_of hs0 6).trans rfl
  have s7 := (cell_of hs0 7).trans rfl
  have s8 := (cell_of hs0 8).trans rfl
  have s9 := (cell_of hs0 9).trans rfl
  obtain ⟨⟨p0, p1, p2, p3, p4, p5⟩, q0, q1, q2, q3, q4, q5⟩ := cells6 ha0
  have htab : Typed W (w.heap.size + 1) tAns := Typed.of ha0
  have hcore : Core w W hb B _ l _ (.slice none 0 0) [] (w.heap.size + 1) := ⟨hH1, hN1, Wrote.of_below hB0, World.ownsRow_nil _ _ _ _, htab, Nat.le_add_right _ 1⟩
  have n1 : w.heap.size ≠ hb := blk_ne hs0 hH1 (by decide)
  have n2 : w.heap.size + 1 ≠ hb := blk_ne ha0 hH1 (by decide)
  have n3 : w.heap.size ≠ nb := by obtain ⟨c, hc⟩ := hnb; exact blk_ne hs0 hc (by decide)
  have n4 : w.heap.size + 1 ≠ nb := by obtain ⟨c, hc⟩ := hnb; exact blk_ne ha0 hc (by decide)
  have n5 : hb ≠ nb := by obtain ⟨c, hc⟩ := hnb; exact blk_ne hH1 hc (by decide)
  have HC := Lib.hid hcore
  have HLE := Lib.hid hle
  have HZ := Lib.hid hz
  have z2 := hz (node * 5 + 2)
  have z3 := hz (node * 5 + 3)
  have HF := Lib.hid hf
  have HM := Lib.hid hM1
  have HB0 := Lib.hid hB0
  have HOV := Lib.hid hov
  have HA0 := Lib.hid ha0
  have HS0 := Lib.hid hs0
  clear hle hz hf hN hH hM hN1 hH1 hM1 hB0 hs0 ha0 hov htab hnb hcore
  obtain ⟨sb, hsb⟩ : ∃ sb, w.heap.size = sb := ⟨_, rfl⟩
  rw [hsb] at s0 s6 s7 s8 s9 p0 p1 p2 p3 p4 p5 q0 q1 q2 q3 q4 q5 HC HA0 HS0 n1 n2 n3 n4 ⊢
  have HSB := Lib.hid hsb
  clear hsb
  go_quiet (fail)
  go_upto_region 46 with fail
  have hsl := cut_low vA l[node].bs.length vc k (by have := HBY.out.le; omega)
  have hlt : (k < l[node].bs.length) = True := by simp; omega
  have HLEN := Lib.hid hlen
  have hblk : ∀ (k : Nat) (j : Nat) (u : Value) (W' : World), Below W.heap.size W W' → W.cell? ⟨k, j, none⟩ = some u → W'.cell? ⟨k, j, none⟩ = some u := fun k j u W' hb hc => (hb.cell (p := ⟨k, j, none⟩) (cell_lt hc)).trans hc
  have HBK := Lib.hid hblk
  clear hblk
  refine Rg.start1 (i := 1) (v := ?_) (fuel := 23) 18 (fun w' => w'.cell? ⟨nb, node * 5 + 2, none⟩ = some (.slice vA l[node].bs.length vc) ∧ w'.cell? ⟨sb, 7, none⟩ = some (.int .i64 (k : Int))) (by kernel_rfl) rfl rfl (by kernel_rfl) (by kernel_rfl) (by kernel_rfl) (fun _ _ _ h => h) (Or.inl ⟨by rfl, ?_⟩) ⟨x2, s7⟩ ?_
  rotate_left
  · (intro w hSw; (try dsimp only at hSw); go_split_ands; go_simp) <;> with_reducible rfl
  intro hHeld
  (try simp only [Act.put, List.setIfInBounds_toArray, List.set_cons_zero, List.set_cons_succ, List.getElem_toArray, List.getElem_cons_succ, List.getElem_cons_zero])
  refine Rg.take (i := 0) (v := ?_) rfl (by kernel_rfl) (by kernel_rfl) (by kernel_rfl) (by kernel_rfl) (by kernel_rfl) (by kernel_rfl) (fun _ _ _ h => h) (Or.inl ⟨by rfl, ?_⟩) (by assumption) ?_
  rotate_left
  · (intro w hSw; (try dsimp only at hSw); go_split_ands; go_simp) <;> with_reducible rfl
  (try simp only [Act.put, List.setIfInBounds_toArray, List.set_cons_zero, List.set_cons_succ, List.getElem_toArray, List.getElem_cons_succ, List.getElem_cons_zero])
  refine Rg.take (i := 2) (v := ?_) rfl (by kernel_rfl) (by kernel_rfl) (by kernel_rfl) (by kernel_rfl) (by kernel_rfl) (by kernel_rfl) (fun _ _ _ h => h) (Or.inl ⟨by rfl, ?_⟩) (by assumption) ?_
  rotate_left
  · (intro w hSw; (try dsimp only at hSw); go_split_ands; go_simp) <;> with_reducible rfl
  (try simp only [Act.put, List.setIfInBounds_toArray, List.set_cons_zero, List.set_cons_succ, List.getElem_toArray, List.getElem_cons_succ, List.getElem_cons_zero])
  refine Rg.take (i := 3) (v := ?_) rfl (by kernel_rfl) (by kernel_rfl) (by kernel_rfl) (by kernel_rfl) (by kernel_rfl) (by kernel_rfl) (fun _ _ _ h => h) (Or.inl ⟨by rfl, ?_⟩) (by assumption) ?_
  rotate_left
  · (intro w hSw; (try dsimp only at hSw); go_split_ands; go_simp) <;> with_reducible rfl
  (try simp only [Act.put, List.setIfInBounds_toArray, List.set_cons_zero, List.set_cons_succ, List.getElem_toArray, List.getElem_cons_succ, List.getElem_cons_zero])
  refine Rg.take (i := 4) (v := ?_) rfl (by kernel_rfl) (by kernel_rfl) (by kernel_rfl) (by kernel_rfl) (by kernel_rfl) (by kernel_rfl) (fun _ _ _ h => h) (Or.inl ⟨by rfl, ?_⟩) (by assumption) ?_
  rotate_left
  · (intro w hSw; (try dsimp only at hSw); go_split_ands; go_simp) <;> with_reducible rfl
  (try simp only [Act.put, List.setIfInBounds_toArray, List.set_cons_zero, List.set_cons_succ, List.getElem_toArray, List.getElem_cons_succ, List.getElem_cons_zero])
  refine Rg.take (i := 5) (v := ?_) rfl (by kernel_rfl) (by kernel_rfl) (by kernel_rfl) (by kernel_rfl) (by kernel_rfl) (by kernel_rfl) (fun _ _ _ h => h) (Or.inl ⟨by rfl, ?_⟩) (by assumption) ?_
  rotate_left
  · (intro w hSw; (try dsimp only at hSw); go_split_ands; go_simp) <;> with_reducible rfl
  (try simp only [Act.put, List.setIfInBounds_toArray, List.set_cons_zero, List.set_cons_succ, List.getElem_toArray, List.getElem_cons_succ, List.getElem_cons_zero])
  refine Rg.take (i := 6) (v := ?_) rfl (by kernel_rfl) (by kernel_rfl) (by kernel_rfl) (by kernel_rfl) (by kernel_rfl) (by kernel_rfl) (fun _ _ _ h => h) (Or.inl ⟨by rfl, ?_⟩) (by assumption) ?_
  rotate_left
  · (intro w hSw; (try dsimp only at hSw); go_split_ands; go_simp) <;> with_reducible rfl
  (try simp only [Act.put, List.setIfInBounds_toArray, List.set_cons_zero, List.set_cons_succ, List.getElem_toArray, List.getElem_cons_succ, List.getElem_cons_zero])
  refine Rg.take (i := 7) (v := ?_) rfl (by kernel_rfl) (by kernel_rfl) (by kernel_rfl) (by kernel_rfl) (by kernel_rfl) (by kernel_rfl) (fun _ _ _ h => h) (Or.inl ⟨by rfl, ?_⟩) (by assumption) ?_
  rotate_left
  · (intro w hSw; (try dsimp only at hSw); go_split_ands; go_simp) <;> with_reducible rfl
  (try simp only [Act.put, List.setIfInBounds_toArray, List.set_cons_zero, List.set_cons_succ, List.getElem_toArray, List.getElem_cons_succ, List.getElem_cons_zero])
  refine Rg.take (i := 8) (v := ?_) rfl (by kernel_rfl) (by kernel_rfl) (by kernel_rfl) (by kernel_rfl) (by kernel_rfl) (by kernel_rfl) (fun _ _ _ h => h) (Or.inl ⟨by rfl, ?_⟩) (by assumption) ?_
  rotate_left
  · (intro w hSw; (try dsimp only at hSw); go_split_ands; go_simp) <;> with_reducible rfl
  (try simp only [Act.put, List.setIfInBounds_toArray, List.set_cons_zero, List.set_cons_succ, List.getElem_toArray, List.getElem_cons_succ, List.getElem_cons_zero])
  refine Rg.take (i := 9) (v := ?_) rfl (by kernel_rfl) (by kernel_rfl) (by kernel_rfl) (by kernel_rfl) (by kernel_rfl) (by kernel_rfl) (fun _ _ _ h => h) (Or.inl ⟨by rfl, ?_⟩) (by assumption) ?_
  rotate_left
  · (intro w hSw; (try dsimp only at hSw); go_split_ands; go_simp) <;> with_reducible rfl
  (try simp only [Act.put, List.setIfInBounds_toArray, List.set_cons_zero, List.set_cons_succ, List.getElem_toArray, List.getElem_cons_succ, List.getElem_cons_zero])
  refine Rg.take (i := 10) (v := ?_) rfl (by kernel_rfl) (by kernel_rfl) (by kernel_rfl) (by kernel_rfl) (by kernel_rfl) (by kernel_rfl) (fun _ _ _ h => h) (Or.inl ⟨by rfl, ?_⟩) (by assumption) ?_
  rotate_left
  · (intro w hSw; (try dsimp only at hSw); go_split_ands; go_simp) <;> with_reducible rfl
  (try simp only [Act.put, List.setIfInBounds_toArray, List.set_cons_zero, List.set_cons_succ, List.getElem_toArray, List.getElem_cons_succ, List.getElem_cons_zero])
  refine Rg.take (i := 11) (v := ?_) rfl (by kernel_rfl) (by kernel_rfl) (by kernel_rfl) (by kernel_rfl) (by kernel_rfl) (by kernel_rfl) (fun _ _ _ h => h) (Or.inl ⟨by rfl, ?_⟩) (by assumption) ?_
  rotate_left
  · (intro w hSw; (try dsimp only at hSw); go_split_ands; go_simp) <;> with_reducible rfl
  (try simp only [Act.put, List.setIfInBounds_toArray, List.set_cons_zero, List.set_cons_succ, List.getElem_toArray, List.getElem_cons_succ, List.getElem_cons_zero])
  refine Rg.take (i := 12) (v := ?_) rfl (by kernel_rfl) (by kernel_rfl) (by kernel_rfl) (by kernel_rfl) (by kernel_rfl) (by kernel_rfl) (fun _ _ _ h => h) (Or.inl ⟨by rfl, ?_⟩) (by assumption) ?_
  rotate_left
  · (intro w hSw; (try dsimp only at hSw); go_split_ands; go_simp) <;> with_reducible rfl
  (try simp only [Act.put, List.setIfInBounds_toArray, List.set_cons_zero, List.set_cons_succ, List.getElem_toArray, List.getElem_cons_succ, List.getElem_cons_zero])
  refine Rg.take (i := 13) (v := ?_) rfl (by kernel_rfl) (by kernel_rfl) (by kernel_rfl) (by kernel_rfl) (by kernel_rfl) (by kernel_rfl) (fun _ _ _ h => h) (Or.inl ⟨by rfl, ?_⟩) (by assumption) ?_
  rotate_left
  · (intro w hSw; (try dsimp only at hSw); go_split_ands; go_simp) <;> with_reducible rfl
  (try simp only [Act.put, List.setIfInBounds_toArray, List.set_cons_zero, List.set_cons_succ, List.getElem_toArray, List.getElem_cons_succ, List.getElem_cons_zero])
  refine Rg.take (i := 14) (v := ?_) rfl (by kernel_rfl) (by kernel_rfl) (by kernel_rfl) (by kernel_rfl) (by kernel_rfl) (by kernel_rfl) (fun _ _ _ h => h) (Or.inl ⟨by rfl, ?_⟩) (by assumption) ?_
  rotate_left
  · (intro w hSw; (try dsimp only at hSw); go_split_ands; go_simp) <;> with_reducible rfl
  (try simp only [Act.put, List.setIfInBounds_toArray, List.set_cons_zero, List.set_cons_succ, List.getElem_toArray, List.getElem_cons_succ, List.getElem_cons_zero])
  refine Rg.take (i := 15) (v := ?_) rfl (by kernel_rfl) (by kernel_rfl) (by kernel_rfl) (by kernel_rfl) (by kernel_rfl) (by kernel_rfl) (fun _ _ _ h => h) (Or.inl ⟨by rfl, ?_⟩) (by assumption) ?_
  rotate_left
  · (intro w hSw; (try dsimp only at hSw); go_split_ands; go_simp) <;> with_reducible rfl
  (try simp only [Act.put, List.setIfInBounds_toArray, List.set_cons_zero, List.set_cons_succ, List.getElem_toArray, List.getElem_cons_succ, List.getElem_cons_zero])
  refine Rg.take (i := 16) (v := ?_) rfl (by kernel_rfl) (by kernel_rfl) (by kernel_rfl) (by kernel_rfl) (by kernel_rfl) (by kernel_rfl) (fun _ _ _ h => h) (Or.inl ⟨by rfl, ?_⟩) (by assumption) ?_
  rotate_left
  · (intro w hSw; (try dsimp only at hSw); go_split_ands; go_simp) <;> with_reducible rfl
  (try simp only [Act.put, List.setIfInBounds_toArray, List.set_cons_zero, List.set_cons_succ, List.getElem_toArray, List.getElem_cons_succ, List.getElem_cons_zero])
  refine Rg.one (i := 17) rfl (by kernel_rfl) (by kernel_rfl) (fun K hK => ?_)
  go_simp; go_at_call 102; refine (grown_any vA k vc (l[node].bs.take k) (k : Int) _ ((bytes_cut HBY.out (by omega)).drewN (nq + 1)) (by first | omega | (simp; omega)) (by omega)).mono ?_; rintro e W2 ⟨v2, rfl, ho2, hB2⟩; replace hB2 : Below W.heap.size W W2 := (pw_below_drewN (Below.refl _ _) (nq + 1)).trans hB2; have hk2 := HBK.out _ _ _ _ hB2 x2; have hk7 := HBK.out _ _ _ _ hB2 s7
  refine hK.out _ _ ⟨hk2, hk7⟩ (fun hHeld => ?_)
  clear hK K
  (try simp only [Act.put, List.setIfInBounds_toArray, List.set_cons_zero, List.set_cons_succ, List.getElem_toArray, List.getElem_cons_succ, List.getElem_cons_zero])
  refine Rg.rest _ rfl rfl (by kernel_rfl) (by kernel_rfl) ?_
  simp only [List.drop_succ_cons, List.drop_zero]
  clear hk2 hk7 hHeld hlt hsl
  obtain ⟨DA, dc2, hv2⟩ := own_slice ho2; subst hv2; have hC2 := HC.out.below hB2; clear c0 c1 c3 c4 f1 f3 s0 s6 s7 s8 s9 p0 p1 p2 p3 p4 p5 q0 q1 q2 q3 q4 q5 x0 x1 x2 x3 x4 m2 z2 z3; obtain ⟨u2, x2, x3, z2, z3⟩ := hC2.node rfl hi; have c0 := (cell_of hC2.hand 0).trans rfl; have c1 := (cell_of hC2.hand 1).trans rfl; have f1 := free_of hC2.hand 1; have ha2 := (hB2.block _ (lt_of_heap HA0.out)).trans HA0.out; have hs2 := (hB2.block _ (lt_of_heap HS0.out)).trans HS0.out; have s6 := (cell_of hs2 6).trans rfl; have s7 := (cell_of hs2 7).trans rfl; obtain ⟨⟨p0, p1, p2, p3, p4, p5⟩, q0, q1, q2, q3, q4, q5⟩ := cells6 ha2; have HC2 := Lib.hid hC2; have HO2 := Lib.hid ho2; clear hC2 ho2 hB2 ha2 hs2
  go_wp2_with fail
  refine bodyPost_ret (v := ansVal 0 0 0 (.slice none 0 0)) (by simp [results, Tryd.results85, go_sem, ansVal, p0, p1, p2, p3, p4, p5]) rfl ?_
  refine Core.post (a := ⟨0, 0, 0, []⟩) (ab := sb + 1) ?_
  rw [← grow_cut HLEN.out]
  have hC := HC2.out.setData rfl hi (row_le HO2.out (Nat.le_trans hB (Nat.le_trans HB0.out.size (Nat.le_refl _)))) (grow_fit (fun x hx => HF.out x (List.mem_of_mem_take hx)) _) 0
  repeat (first | with_reducible exact hC | with_reducible refine Core.set ?_ _ _)
set_option maxRecDepth 100000 in
set_option maxHeartbeats 2000000 in
theorem file_trunc_grow (m hb B mb : Nat) (nv av dv : Value) (l : List SN) (h : SH) (s : Stp) (w : World) (hop : s.op = 17) (hM : MemIs w m nv av dv mb) (hH : SHIs w hb h) (hN : NodesIs w B dv l) (hi : h.node < l.length) (hcl : h.cl = false) (hro : h.ro = false) (k : Nat) (hoff : s.off = (k : Int)) (hk : k ≤ 1000000) (h3 : l[h.node].bs.length ≤ 1000000) (hlen : l[h.node].bs.length ≤ k) (hB : B ≤ w.heap.size) :
    Calls Tryd.prog 85 #[.pointer (some ⟨m, 0, none⟩), .pointer (some ⟨hb, 0, none⟩), s.val] w (FilePost w hb B dv l h.node ⟨0, 0, 0, []⟩ h { l[h.node] with bs := cutTo l[h.node].bs k, time := 0 }) := by
  obtain ⟨op, name, other, flag, perm, hh, da, dl, dc, off, wh, n⟩ := s
  obtain ⟨node, at_, listed, cl, ro⟩ := h
  simp only at hop hcl hro hoff h3 hlen hi ⊢
  subst hop hcl hro hoff
  unfold Stp.val
  simp only
  go_enter Tryd.func85, Tryd.ntmps85
  go_upto_region 1 with fail
  obtain ⟨W, hW⟩ : ∃ W, ((w.alloc (.cells #[.int .i64 17, .string name, .string other, .int .i64 flag, .int .i64 perm, .int .i64 hh, .slice da dl dc, .int .i64 (k : Int), .int .i64 wh, .int .i64 n] tStep)).alloc (.cells #[.int .i64 0, .int .i64 0, .int .i64 0, .slice none 0 0, .slice none 0 0, .slice none 0 0] tAns)) = W := ⟨_, rfl⟩
  have hs0 := two_old w (.cells #[.int .i64 17, .string name, .string other, .int .i64 flag, .int .i64 perm, .int .i64 hh, .slice da dl dc, .int .i64 (k : Int), .int .i64 wh, .int .i64 n] tStep) (.cells #[.int .i64 0, .int .i64 0, .int .i64 0, .slice none 0 0, .slice none 0 0, .slice none 0 0] tAns)
  have ha0 := two_new w (.cells #[.int .i64 17, .string name, .string other, .int .i64 flag, .int .i64 perm, .int .i64 hh, .slice da dl dc, .int .i64 (k : Int), .int .i64 wh, .int .i64 n] tStep) (.cells #[.int .i64 0, .int .i64 0, .int .i64 0, .slice none 0 0, .slice none 0 0, .slice none 0 0] tAns)
  have hB0 := two_below w (.cells #[.int .i64 17, .string name, .string other, .int .i64 flag, .int .i64 perm, .int .i64 hh, .slice da dl dc, .int .i64 (k : Int), .int .i64 wh, .int .i64 n] tStep) (.cells #[.int .i64 0, .int .i64 0, .int .i64 0, .slice none 0 0, .slice none 0 0, .slice none 0 0] tAns)
  rw [hW] at hs0 ha0 hB0
  have hW2 : ∀ {P} {c : Code} {Q : Exit → Act → World → Prop} {a : Act}, c.wp P Q a W → c.wp P Q a _ := fun {P c Q a} h => hW.symm ▸ h
  refine hW2 ?_
  clear hW2 hW
  have hM1 := hM.below hB0
  have hH1 := hH.below hB0
  have hN1 := NodesIs.below hN hB0
  obtain ⟨nb, cap, v, rfl, hle, hnb, ⟨x0, x1, x2, x3, x4⟩, hov, hf, hz⟩ := NodesIs.at hN1 hi
  obtain ⟨vA, vc, rfl, hby⟩ := BytesIn.own hov hf
  have HBY := Lib.hid hby
  clear hby
  have m2 := (cell_of hM1 2).trans rfl
  have c0 := (cell_of hH1 0).trans rfl
  have c1 := (cell_of hH1 1).trans rfl
  have c3 := (cell_of hH1 3).trans rfl
  have c4 := (cell_of hH1 4).trans rfl
  have f1 := free_of hH1 1
  have f3 := free_of hH1 3
  have s0 := (cell_of hs0 0).trans rfl
  have s6 := (cell_of hs0 6).trans rfl
  have s7 := (cell_of hs0 7).trans rfl
  have s8 := (cell_of hs0 8).trans rfl
  have s9 := (cell_of hs0 9).trans rfl
  obtain ⟨⟨p0, p1, p2, p3, p4, p5⟩, q0, q1, q2, q3, q4, q5⟩ := cells6 ha0
  have htab : Typed W (w.heap.size + 1) tAns := Typed.of ha0
  have hcore : Core w W hb B _ l _ (.slice none 0 0) [] (w.heap.size + 1) := ⟨hH1, hN1, Wrote.of_below hB0, World.ownsRow_nil _ _ _ _, htab, Nat.le_add_right _ 1⟩
  have n1 : w.heap.size ≠ hb := blk_ne hs0 hH1 (by decide)
  have n2 : w.heap.size + 1 ≠ hb := blk_ne ha0 hH1 (by decide)
  have n3 : w.heap.size ≠ nb := by obtain ⟨c, hc⟩ := hnb; exact blk_ne hs0 hc (by decide)
  have n4 : w.heap.size + 1 ≠ nb := by obtain ⟨c, hc⟩ := hnb; exact blk_ne ha0 hc (by decide)
  have n5 : hb ≠ nb := by obtain ⟨c, hc⟩ := hnb; exact blk_ne hH1 hc (by decide)
  have HC := Lib.hid hcore
  have HLE := Lib.hid hle
  have HZ := Lib.hid hz
  have z2 := hz (node * 5 + 2)
  have z3 := hz (node * 5 + 3)
  have HF := Lib.hid hf
  have HM := Lib.hid hM1
  have HB0 := Lib.hid hB0
  have HOV := Lib.hid hov
  have HA0 := Lib.hid ha0
  have HS0 := Lib.hid hs0
  clear hle hz hf hN hH hM hN1 hH1 hM1 hB0 hs0 ha0 hov htab hnb hcore
  obtain ⟨sb, hsb⟩ : ∃ sb, w.heap.size = sb := ⟨_, rfl⟩
  rw [hsb] at s0 s6 s7 s8 s9 p0 p1 p2 p3 p4 p5 q0 q1 q2 q3 q4 q5 HC HA0 HS0 n1 n2 n3 n4 ⊢
  have HSB := Lib.hid hsb
  clear hsb
  go_quiet (fail)
  go_upto_region 46 with fail
  have hsl := cut_low vA l[node].bs.length vc l[node].bs.length (by have := HBY.out.le; omega)
  have hlt : (k < l[node].bs.length) = False := by simp; omega
  have HLEN := Lib.hid hlen
  have hblk : ∀ (k : Nat) (j : Nat) (u : Value) (W' : World), Below W.heap.size W W' → W.cell? ⟨k, j, none⟩ = some u → W'.cell? ⟨k, j, none⟩ = some u := fun k j u W' hb hc => (hb.cell (p := ⟨k, j, none⟩) (cell_lt hc)).trans hc
  have HBK := Lib.hid hblk
  clear hblk
  refine Rg.start1 (i := 1) (v := ?_) (fuel := 23) 18 (fun w' => w'.cell? ⟨nb, node * 5 + 2, none⟩ = some (.slice vA l[node].bs.length vc) ∧ w'.cell? ⟨sb, 7, none⟩ = some (.int .i64 (k : Int))) (by kernel_rfl) rfl rfl (by kernel_rfl) (by kernel_rfl) (by kernel_rfl) (fun _ _ _ h => h) (Or.inl ⟨by rfl, ?_⟩) ⟨x2, s7⟩ ?_
  rotate_left
  · (intro w hSw; (try dsimp only at hSw); go_split_ands; go_simp) <;> with_reducible rfl
  intro hHeld
  (try simp only [Act.put, List.setIfInBounds_toArray, List.set_cons_zero, List.set_cons_succ, List.getElem_toArray, List.getElem_cons_succ, List.getElem_cons_zero])
  refine Rg.take (i := 0) (v := ?_) rfl (by kernel_rfl) (by kernel_rfl) (by kernel_rfl) (by kernel_rfl) (by kernel_rfl) (by kernel_rfl) (fun _ _ _ h => h) (Or.inl ⟨by rfl, ?_⟩) (by assumption) ?_
  rotate_left
  · (intro w hSw; (try dsimp only at hSw); go_split_ands; go_simp) <;> with_reducible rfl
  (try simp only [Act.put, List.setIfInBounds_toArray, List.set_cons_zero, List.set_cons_succ, List.getElem_toArray, List.getElem_cons_succ, List.getElem_cons_zero])
  refine Rg.take (i := 2) (v := ?_) rfl (by kernel_rfl) (by kernel_rfl) (by kernel_rfl) (by kernel_rfl) (by kernel_rfl) (by kernel_rfl) (fun _ _ _ h => h) (Or.inl ⟨by rfl, ?_⟩) (by assumption) ?_
  rotate_left
  · (intro w hSw; (try dsimp only at hSw); go_split_ands; go_simp) <;> with_reducible rfl
  (try simp only [Act.put, List.setIfInBounds_toArray, List.set_cons_zero, List.set_cons_succ, List.getElem_toArray, List.getElem_cons_succ, List.getElem_cons_zero])
  refine Rg.take (i := 3) (v := ?_) rfl (by kernel_rfl) (by kernel_rfl) (by kernel_rfl) (by kernel_rfl) (by kernel_rfl) (by kernel_rfl) (fun _ _ _ h => h) (Or.inl ⟨by rfl, ?_⟩) (by assumption) ?_
  rotate_left
  · (intro w hSw; (try dsimp only at hSw); go_split_ands; go_simp) <;> with_reducible rfl
  (try simp only [Act.put, List.setIfInBounds_toArray, List.set_cons_zero, List.set_cons_succ, List.getElem_toArray, List.getElem_cons_succ, List.getElem_cons_zero])
  refine Rg.take (i := 4) (v := ?_) rfl (by kernel_rfl) (by kernel_rfl) (by kernel_rfl) (by kernel_rfl) (by kernel_rfl) (by kernel_rfl) (fun _ _ _ h => h) (Or.inl ⟨by rfl, ?_⟩) (by assumption) ?_
  rotate_left
  · (intro w hSw; (try dsimp only at hSw); go_split_ands; go_simp) <;> with_reducible rfl
  (try simp only [Act.put, List.setIfInBounds_toArray, List.set_cons_zero, List.set_cons_succ, List.getElem_toArray, List.getElem_cons_succ, List.getElem_cons_zero])
  refine Rg.take (i := 5) (v := ?_) rfl (by kernel_rfl) (by kernel_rfl) (by kernel_rfl) (by kernel_rfl) (by kernel_rfl) (by kernel_rfl) (fun _ _ _ h => h) (Or.inl ⟨by rfl, ?_⟩) (by assumption) ?_
  rotate_left
  · (intro w hSw; (try dsimp only at hSw); go_split_ands; go_simp) <;> with_reducible rfl
  (try simp only [Act.put, List.setIfInBounds_toArray, List.set_cons_zero, List.set_cons_succ, List.getElem_toArray, List.getElem_cons_succ, List.getElem_cons_zero])
  refine Rg.take (i := 6) (v := ?_) rfl (by kernel_rfl) (by kernel_rfl) (by kernel_rfl) (by kernel_rfl) (by kernel_rfl) (by kernel_rfl) (fun _ _ _ h => h) (Or.inl ⟨by rfl, ?_⟩) (by assumption) ?_
  rotate_left
  · (intro w hSw; (try dsimp only at hSw); go_split_ands; go_simp) <;> with_reducible rfl
  (try simp only [Act.put, List.setIfInBounds_toArray, List.set_cons_zero, List.set_cons_succ, List.getElem_toArray, List.getElem_cons_succ, List.getElem_cons_zero])
  refine Rg.take (i := 7) (v := ?_) rfl (by kernel_rfl) (by kernel_rfl) (by kernel_rfl) (by kernel_rfl) (by kernel_rfl) (by kernel_rfl) (fun _ _ _ h => h) (Or.inl ⟨by rfl, ?_⟩) (by assumption) ?_
  rotate_left
  · (intro w hSw; (try dsimp only at hSw); go_split_ands; go_simp) <;> with_reducible rfl
  (try simp only [Act.put, List.setIfInBounds_toArray, List.set_cons_zero, List.set_cons_succ, List.getElem_toArray, List.getElem_cons_succ, List.getElem_cons_zero])
  refine Rg.take (i := 8) (v := ?_) rfl (by kernel_rfl) (by kernel_rfl) (by kernel_rfl) (by kernel_rfl) (by kernel_rfl) (by kernel_rfl) (fun _ _ _ h => h) (Or.inl ⟨by rfl, ?_⟩) (by assumption) ?_
  rotate_left
  · (intro w hSw; (try dsimp only at hSw); go_split_ands; go_simp) <;> with_reducible rfl
  (try simp only [Act.put, List.setIfInBounds_toArray, List.set_cons_zero, List.set_cons_succ, List.getElem_toArray, List.getElem_cons_succ, List.getElem_cons_zero])
  refine Rg.take (i := 9) (v := ?_) rfl (by kernel_rfl) (by kernel_rfl) (by kernel_rfl) (by kernel_rfl) (by kernel_rfl) (by kernel_rfl) (fun _ _ _ h => h) (Or.inl ⟨by rfl, ?_⟩) (by assumption) ?_
  rotate_left
  · (intro w hSw; (try dsimp only at hSw); go_split_ands; go_simp) <;> with_reducible rfl
  (try simp only [Act.put, List.setIfInBounds_toArray, List.set_cons_zero, List.set_cons_succ, List.getElem_toArray, List.getElem_cons_succ, List.getElem_cons_zero])
  refine Rg.take (i := 10) (v := ?_) rfl (by kernel_rfl) (by kernel_rfl) (by kernel_rfl) (by kernel_rfl) (by kernel_rfl) (by kernel_rfl) (fun _ _ _ h => h) (Or.inl ⟨by rfl, ?_⟩) (by assumption) ?_
  rotate_left
  · (intro w hSw; (try dsimp only at hSw); go_split_ands; go_simp) <;> with_reducible rfl
  (try simp only [Act.put, List.setIfInBounds_toArray, List.set_cons_zero, List.set_cons_succ, List.getElem_toArray, List.getElem_cons_succ, List.getElem_cons_zero])
  refine Rg.take (i := 11) (v := ?_) rfl (by kernel_rfl) (by kernel_rfl) (by kernel_rfl) (by kernel_rfl) (by kernel_rfl) (by kernel_rfl) (fun _ _ _ h => h) (Or.inl ⟨by rfl, ?_⟩) (by assumption) ?_
  rotate_left
  · (intro w hSw; (try dsimp only at hSw); go_split_ands; go_simp) <;> with_reducible rfl
  (try simp only [Act.put, List.setIfInBounds_toArray, List.set_cons_zero, List.set_cons_succ, List.getElem_toArray, List.getElem_cons_succ, List.getElem_cons_zero])
  refine Rg.take (i := 12) (v := ?_) rfl (by kernel_rfl) (by kernel_rfl) (by kernel_rfl) (by kernel_rfl) (by kernel_rfl) (by kernel_rfl) (fun _ _ _ h => h) (Or.inl ⟨by rfl, ?_⟩) (by assumption) ?_
  rotate_left
  · (intro w hSw; (try dsimp only at hSw); go_split_ands; go_simp) <;> with_reducible rfl
  (try simp only [Act.put, List.setIfInBounds_toArray, List.set_cons_zero, List.set_cons_succ, List.getElem_toArray, List.getElem_cons_succ, List.getElem_cons_zero])
  refine Rg.take (i := 13) (v := ?_) rfl (by kernel_rfl) (by kernel_rfl) (by kernel_rfl) (by kernel_rfl) (by kernel_rfl) (by kernel_rfl) (fun _ _ _ h => h) (Or.inl ⟨by rfl, ?_⟩) (by assumption) ?_
  rotate_left
  · (intro w hSw; (try dsimp only at hSw); go_split_ands; go_simp) <;> with_reducible rfl
  (try simp only [Act.put, List.setIfInBounds_toArray, List.set_cons_zero, List.set_cons_succ, List.getElem_toArray, List.getElem_cons_succ, List.getElem_cons_zero])
  refine Rg.take (i := 14) (v := ?_) rfl (by kernel_rfl) (by kernel_rfl) (by kernel_rfl) (by kernel_rfl) (by kernel_rfl) (by kernel_rfl) (fun _ _ _ h => h) (Or.inl ⟨by rfl, ?_⟩) (by assumption) ?_
  rotate_left
  · (intro w hSw; (try dsimp only at hSw); go_split_ands; go_simp) <;> with_reducible rfl
  (try simp only [Act.put, List.setIfInBounds_toArray, List.set_cons_zero, List.set_cons_succ, List.getElem_toArray, List.getElem_cons_succ, List.getElem_cons_zero])
  refine Rg.take (i := 15) (v := ?_) rfl (by kernel_rfl) (by kernel_rfl) (by kernel_rfl) (by kernel_rfl) (by kernel_rfl) (by kernel_rfl) (fun _ _ _ h => h) (Or.inl ⟨by rfl, ?_⟩) (by assumption) ?_
  rotate_left
  · (intro w hSw; (try dsimp only at hSw); go_split_ands; go_simp) <;> with_reducible rfl
  (try simp only [Act.put, List.setIfInBounds_toArray, List.set_cons_zero, List.set_cons_succ, List.getElem_toArray, List.getElem_cons_succ, List.getElem_cons_zero])
  refine Rg.take (i := 16) (v := ?_) rfl (by kernel_rfl) (by kernel_rfl) (by kernel_rfl) (by kernel_rfl) (by kernel_rfl) (by kernel_rfl) (fun _ _ _ h => h) (Or.inl ⟨by rfl, ?_⟩) (by assumption) ?_
  rotate_left
  · (intro w hSw; (try dsimp only at hSw); go_split_ands; go_simp) <;> with_reducible rfl
  (try simp only [Act.put, List.setIfInBounds_toArray, List.set_cons_zero, List.set_cons_succ, List.getElem_toArray, List.getElem_cons_succ, List.getElem_cons_zero])
  refine Rg.one (i := 17) rfl (by kernel_rfl) (by kernel_rfl) (fun K hK => ?_)
  go_simp; go_at_call 102; refine (grown_any vA l[node].bs.length vc l[node].bs (k : Int) _ (HBY.out.drewN (nq + 1)) (by first | omega | (simp; omega)) (by omega)).mono ?_; rintro e W2 ⟨v2, rfl, ho2, hB2⟩; replace hB2 : Below W.heap.size W W2 := (pw_below_drewN (Below.refl _ _) (nq + 1)).trans hB2; have hk2 := HBK.out _ _ _ _ hB2 x2; have hk7 := HBK.out _ _ _ _ hB2 s7
  refine hK.out _ _ ⟨hk2, hk7⟩ (fun hHeld => ?_)
  clear hK K
  (try simp only [Act.put, List.setIfInBounds_toArray, List.set_cons_zero, List.set_cons_succ, List.getElem_toArray, List.getElem_cons_succ, List.getElem_cons_zero])
  refine Rg.rest _ rfl rfl (by kernel_rfl) (by kernel_rfl) ?_
  simp only [List.drop_succ_cons, List.drop_zero]
  clear hk2 hk7 hHeld hlt hsl
  obtain ⟨DA, dc2, hv2⟩ := own_slice ho2; subst hv2; have hC2 := HC.out.below hB2; clear c0 c1 c3 c4 f1 f3 s0 s6 s7 s8 s9 p0 p1 p2 p3 p4 p5 q0 q1 q2 q3 q4 q5 x0 x1 x2 x3 x4 m2 z2 z3; obtain ⟨u2, x2, x3, z2, z3⟩ := hC2.node rfl hi; have c0 := (cell_of hC2.hand 0).trans rfl; have c1 := (cell_of hC2.hand 1).trans rfl; have f1 := free_of hC2.hand 1; have ha2 := (hB2.block _ (lt_of_heap HA0.out)).trans HA0.out; have hs2 := (hB2.block _ (lt_of_heap HS0.out)).trans HS0.out; have s6 := (cell_of hs2 6).trans rfl; have s7 := (cell_of hs2 7).trans rfl; obtain ⟨⟨p0, p1, p2, p3, p4, p5⟩, q0, q1, q2, q3, q4, q5⟩ := cells6 ha2; have HC2 := Lib.hid hC2; have HO2 := Lib.hid ho2; clear hC2 ho2 hB2 ha2 hs2
  go_wp2_with fail
  refine bodyPost_ret (v := ansVal 0 0 0 (.slice none 0 0)) (by simp [results, Tryd.results85, go_sem, ansVal, p0, p1, p2, p3, p4, p5]) rfl ?_
  refine Core.post (a := ⟨0, 0, 0, []⟩) (ab := sb + 1) ?_
  rw [← grow_on HLEN.out]
  have hC := HC2.out.setData rfl hi (row_le HO2.out (Nat.le_trans hB (Nat.le_trans HB0.out.size (Nat.le_refl _)))) (grow_fit HF.out _) 0
  repeat (first | with_reducible exact hC | with_reducible refine Core.set ?_ _ _)
end Sb
end Go.Proofs.YtnkhfdnahnphdaaDoor
end
section
namespace Go.Proofs.YtnkhfdnahnphdaaDoor
open Go.ChangeShapes Go.WideShapes Go.ChangeAt Go.RowKit Go.Rd
open Go.Proofs.YtnkhfdnahnphdaaDoorW.PrintWords Go.Proofs.YtnkhfdnahnphdaaDoorW.PrintLast Go.Proofs.YtnkhfdnahnphdaaDoorW.PrintMore
attribute [local go_sem] min_two min2_int
set_option linter.unusedVariables false
set_option linter.unusedSimpArgs false
namespace Sb
open Sa
set_option maxRecDepth 100000 in
set_option maxHeartbeats 2000000 in
theorem file_write (m hb B mb : Nat) (nv av dv : Value) (l : List SN) (h : SH) (s : Stp) (w : World) (hop : s.op = 14) (hM : MemIs w m nv av dv mb) (hH : SHIs w hb h) (hN : NodesIs w B dv l) (hi : h.node < l.length) (a : Nat) (hat : h.at_ = (a : Int)) (ha : a ≤ 1000000) (hcl : h.cl = false) (hro : h.ro = false) (b : List Int) (hby : BytesIn w s.da s.dl s.dc b) (hbl : b.length ≤ 1000000) (h3 : l[h.node].bs.length ≤ 1000000) (hB : B ≤ w.heap.size) :
    Calls Tryd.prog 85 #[.pointer (some ⟨m, 0, none⟩), .pointer (some ⟨hb, 0, none⟩), s.val] w (FilePost w hb B dv l h.node ⟨0, b.length, 0, []⟩ { h with at_ := (a : Int) + b.length } { l[h.node] with bs := lay l[h.node].bs a b, time := 0 }) := by
  obtain ⟨op, name, other, flag, perm, hh, da, dl, dc, off, wh, n⟩ := s
  obtain ⟨node, at_, listed, cl, ro⟩ := h
  simp only at hop hat hcl hro hby h3 hi ⊢
  have hdl := hby.len
  subst hop hat hcl hro hdl
  have HBB := Lib.hid hby
  clear hby
  unfold Stp.val
  simp only
  go_enter Tryd.func85, Tryd.ntmps85
  go_upto_region 1 with fail
  obtain ⟨W, hW⟩ : ∃ W, ((w.alloc (.cells #[.int .i64 14, .string name, .string other, .int .i64 flag, .int .i64 perm, .int .i64 hh, .slice da b.length dc, .int .i64 off, .int .i64 wh, .int .i64 n] tStep)).alloc (.cells #[.int .i64 0, .int .i64 0, .int .i64 0, .slice none 0 0, .slice none 0 0, .slice none 0 0] tAns)) = W := ⟨_, rfl⟩
  have hs0 := two_old w (.cells #[.int .i64 14, .string name, .string other, .int .i64 flag, .int .i64 perm, .int .i64 hh, .slice da b.length dc, .int .i64 off, .int .i64 wh, .int .i64 n] tStep) (.cells #[.int .i64 0, .int .i64 0, .int .i64 0, .slice none 0 0, .slice none 0 0, .slice none 0 0] tAns)
  have ha0 := two_new w (.cells #[.int .i64 14, .string name, .string other, .int .i64 flag, .int .i64 perm, .int .i64 hh, .slice da b.length dc, .int .i64 off, .int .i64 wh, .int .i64 n] tStep) (.cells #[.int .i64 0, .int .i64 0, .int .i64 0, .slice none 0 0, .slice none 0 0, .slice none 0 0] tAns)
  have hB0 := two_below w (.cells #[.int .i64 14, .string name, .string other, .int .i64 flag, .int .i64 perm, .int .i64 hh, .slice da b.length dc, .int .i64 off, .int .i64 wh, .int .i64 n] tStep) (.cells #[.int .i64 0, .int .i64 0, .int .i64 0, .slice none 0 0, .slice none 0 0, .slice none 0 0] tAns)
  rw [hW] at hs0 ha0 hB0
  have hW2 : ∀ {P} {c : Code} {Q : Exit → Act → World → Prop} {a : Act}, c.wp P Q a W → c.wp P Q a _ := fun {P c Q a} h => hW.symm ▸ h
  refine hW2 ?_
  clear hW2 hW
  have hM1 := hM.below hB0
  have hH1 := hH.below hB0
  have hN1 := NodesIs.below hN hB0
  obtain ⟨nb, cap, v, rfl, hle, hnb, ⟨x0, x1, x2, x3, x4⟩, hov, hf, hz⟩ := NodesIs.at hN1 hi
  obtain ⟨vA, vc, rfl, hby⟩ := BytesIn.own hov hf
  have HBY := Lib.hid hby
  clear hby
  have m2 := (cell_of hM1 2).trans rfl
  have c0 := (cell_of hH1 0).trans rfl
  have c1 := (cell_of hH1 1).trans rfl
  have c3 := (cell_of hH1 3).trans rfl
  have c4 := (cell_of hH1 4).trans rfl
  have f1 := free_of hH1 1
  have f3 := free_of hH1 3
  have s0 := (cell_of hs0 0).trans rfl
  have s6 := (cell_of hs0 6).trans rfl
  have s7 := (cell_of hs0 7).trans rfl
  have s8 := (cell_of hs0 8).trans rfl
  have s9 := (cell_of hs0 9).trans rfl
  obtain ⟨⟨p0, p1, p2, p3, p4, p5⟩, q0, q1, q2, q3, q4, q5⟩ := cells6 ha0
  have htab : Typed W (w.heap.size + 1) tAns := Typed.of ha0
  have hcore : Core w W hb B _ l _ (.slice none 0 0) [] (w.heap.size + 1) := ⟨hH1, hN1, Wrote.of_below hB0, World.ownsRow_nil _ _ _ _, htab, Nat.le_add_right _ 1⟩
  have n1 : w.heap.size ≠ hb := blk_ne hs0 hH1 (by decide)
  have n2 : w.heap.size + 1 ≠ hb := blk_ne ha0 hH1 (by decide)
  have n3 : w.heap.size ≠ nb := by obtain ⟨c, hc⟩ := hnb; exact blk_ne hs0 hc (by decide)
  have n4 : w.heap.size + 1 ≠ nb := by obtain ⟨c, hc⟩ := hnb; exact blk_ne ha0 hc (by decide)
  have n5 : hb ≠ nb := by obtain ⟨c, hc⟩ := hnb; exact blk_ne hH1 hc (by decide)
  have HC := Lib.hid hcore
  have HLE := Lib.hid hle
  have HZ := Lib.hid hz
  have z2 := hz (node * 5 + 2)
  have z3 := hz (node * 5 + 3)
  have HF := Lib.hid hf
  have HM := Lib.hid hM1
  have HB0 := Lib.hid hB0
  have HOV := Lib.hid hov
  have HA0 := Lib.hid ha0
  have HS0 := Lib.hid hs0
  clear hle hz hf hN hH hM hN1 hH1 hM1 hB0 hs0 ha0 hov htab hnb hcore
  obtain ⟨sb, hsb⟩ : ∃ sb, w.heap.size = sb := ⟨_, rfl⟩
  rw [hsb] at s0 s6 s7 s8 s9 p0 p1 p2 p3 p4 p5 q0 q1 q2 q3 q4 q5 HC HA0 HS0 n1 n2 n3 n4 ⊢
  have HSB := Lib.hid hsb
  clear hsb
  have e0 : decide ((a : Int) < 0) = false := by simp
  have e1 : decide ((1048576 : Int) < (a : Int)) = false := by simp; omega
  go_quiet (fail)
  go_upto_region 49 with fail
  have hblk : ∀ (k : Nat) (j : Nat) (u : Value) (W' : World), Below W.heap.size W W' → W.cell? ⟨k, j, none⟩ = some u → W'.cell? ⟨k, j, none⟩ = some u := fun k j u W' hb hc => (hb.cell (p := ⟨k, j, none⟩) (cell_lt hc)).trans hc
  have HBK := Lib.hid hblk
  clear hblk
  refine Rg.start1 (i := 1) (v := ?_) (fuel := 18) 13 (fun w' => w'.cell? ⟨nb, node * 5 + 2, none⟩ = some (.slice vA l[node].bs.length vc) ∧ w'.cell? ⟨hb, 1, none⟩ = some (.int .i64 (a : Int)) ∧ w'.cell? ⟨sb, 6, none⟩ = some (.slice da b.length dc)) (by kernel_rfl) rfl rfl (by kernel_rfl) (by kernel_rfl) (by kernel_rfl) (fun _ _ _ h => h) (Or.inl ⟨by rfl, ?_⟩) ⟨x2, c1, s6⟩ ?_
  rotate_left
  · (intro w hSw; (try dsimp only at hSw); go_split_ands; go_simp) <;> with_reducible rfl
  intro hHeld
  (try simp only [Act.put, List.setIfInBounds_toArray, List.set_cons_zero, List.set_cons_succ, List.getElem_toArray, List.getElem_cons_succ, List.getElem_cons_zero])
  refine Rg.take (i := 0) (v := ?_) rfl (by kernel_rfl) (by kernel_rfl) (by kernel_rfl) (by kernel_rfl) (by kernel_rfl) (by kernel_rfl) (fun _ _ _ h => h) (Or.inl ⟨by rfl, ?_⟩) (by assumption) ?_
  rotate_left
  · (intro w hSw; (try dsimp only at hSw); go_split_ands; go_simp) <;> with_reducible rfl
  (try simp only [Act.put, List.setIfInBounds_toArray, List.set_cons_zero, List.set_cons_succ, List.getElem_toArray, List.getElem_cons_succ, List.getElem_cons_zero])
  refine Rg.take (i := 2) (v := ?_) rfl (by kernel_rfl) (by kernel_rfl) (by kernel_rfl) (by kernel_rfl) (by kernel_rfl) (by kernel_rfl) (fun _ _ _ h => h) (Or.inl ⟨by rfl, ?_⟩) (by assumption) ?_
  rotate_left
  · (intro w hSw; (try dsimp only at hSw); go_split_ands; go_simp) <;> with_reducible rfl
  (try simp only [Act.put, List.setIfInBounds_toArray, List.set_cons_zero, List.set_cons_succ, List.getElem_toArray, List.getElem_cons_succ, List.getElem_cons_zero])
  refine Rg.take (i := 3) (v := ?_) rfl (by kernel_rfl) (by kernel_rfl) (by kernel_rfl) (by kernel_rfl) (by kernel_rfl) (by kernel_rfl) (fun _ _ _ h => h) (Or.inl ⟨by rfl, ?_⟩) (by assumption) ?_
  rotate_left
  · (intro w hSw; (try dsimp only at hSw); go_split_ands; go_simp) <;> with_reducible rfl
  (try simp only [Act.put, List.setIfInBounds_toArray, List.set_cons_zero, List.set_cons_succ, List.getElem_toArray, List.getElem_cons_succ, List.getElem_cons_zero])
  refine Rg.take (i := 4) (v := ?_) rfl (by kernel_rfl) (by kernel_rfl) (by kernel_rfl) (by kernel_rfl) (by kernel_rfl) (by kernel_rfl) (fun _ _ _ h => h) (Or.inl ⟨by rfl, ?_⟩) (by assumption) ?_
  rotate_left
  · (intro w hSw; (try dsimp only at hSw); go_split_ands; go_simp) <;> with_reducible rfl
  (try simp only [Act.put, List.setIfInBounds_toArray, List.set_cons_zero, List.set_cons_succ, List.getElem_toArray, List.getElem_cons_succ, List.getElem_cons_zero])
  refine Rg.take (i := 5) (v := ?_) rfl (by kernel_rfl) (by kernel_rfl) (by kernel_rfl) (by kernel_rfl) (by kernel_rfl) (by kernel_rfl) (fun _ _ _ h => h) (Or.inl ⟨by rfl, ?_⟩) (by assumption) ?_
  rotate_left
  · (intro w hSw; (try dsimp only at hSw); go_split_ands; go_simp) <;> with_reducible rfl
  (try simp only [Act.put, List.setIfInBounds_toArray, List.set_cons_zero, List.set_cons_succ, List.getElem_toArray, List.getElem_cons_succ, List.getElem_cons_zero])
  refine Rg.take (i := 6) (v := ?_) rfl (by kernel_rfl) (by kernel_rfl) (by kernel_rfl) (by kernel_rfl) (by kernel_rfl) (by kernel_rfl) (fun _ _ _ h => h) (Or.inl ⟨by rfl, ?_⟩) (by assumption) ?_
  rotate_left
  · (intro w hSw; (try dsimp only at hSw); go_split_ands; go_simp) <;> with_reducible rfl
  (try simp only [Act.put, List.setIfInBounds_toArray, List.set_cons_zero, List.set_cons_succ, List.getElem_toArray, List.getElem_cons_succ, List.getElem_cons_zero])
  refine Rg.take (i := 7) (v := ?_) rfl (by kernel_rfl) (by kernel_rfl) (by kernel_rfl) (by kernel_rfl) (by kernel_rfl) (by kernel_rfl) (fun _ _ _ h => h) (Or.inl ⟨by rfl, ?_⟩) (by assumption) ?_
  rotate_left
  · (intro w hSw; (try dsimp only at hSw); go_split_ands; go_simp) <;> with_reducible rfl
  (try simp only [Act.put, List.setIfInBounds_toArray, List.set_cons_zero, List.set_cons_succ, List.getElem_toArray, List.getElem_cons_succ, List.getElem_cons_zero])
  refine Rg.take (i := 8) (v := ?_) rfl (by kernel_rfl) (by kernel_rfl) (by kernel_rfl) (by kernel_rfl) (by kernel_rfl) (by kernel_rfl) (fun _ _ _ h => h) (Or.inl ⟨by rfl, ?_⟩) (by assumption) ?_
  rotate_left
  · (intro w hSw; (try dsimp only at hSw); go_split_ands; go_simp) <;> with_reducible rfl
  (try simp only [Act.put, List.setIfInBounds_toArray, List.set_cons_zero, List.set_cons_succ, List.getElem_toArray, List.getElem_cons_succ, List.getElem_cons_zero])
  refine Rg.take (i := 9) (v := ?_) rfl (by kernel_rfl) (by kernel_rfl) (by kernel_rfl) (by kernel_rfl) (by kernel_rfl) (by kernel_rfl) (fun _ _ _ h => h) (Or.inl ⟨by rfl, ?_⟩) (by assumption) ?_
  rotate_left
  · (intro w hSw; (try dsimp only at hSw); go_split_ands; go_simp) <;> with_reducible rfl
  (try simp only [Act.put, List.setIfInBounds_toArray, List.set_cons_zero, List.set_cons_succ, List.getElem_toArray, List.getElem_cons_succ, List.getElem_cons_zero])
  refine Rg.take (i := 10) (v := ?_) rfl (by kernel_rfl) (by kernel_rfl) (by kernel_rfl) (by kernel_rfl) (by kernel_rfl) (by kernel_rfl) (fun _ _ _ h => h) (Or.inl ⟨by rfl, ?_⟩) (by assumption) ?_
  rotate_left
  · (intro w hSw; (try dsimp only at hSw); go_split_ands; go_simp) <;> with_reducible rfl
  (try simp only [Act.put, List.setIfInBounds_toArray, List.set_cons_zero, List.set_cons_succ, List.getElem_toArray, List.getElem_cons_succ, List.getElem_cons_zero])
  refine Rg.take (i := 11) (v := ?_) rfl (by kernel_rfl) (by kernel_rfl) (by kernel_rfl) (by kernel_rfl) (by kernel_rfl) (by kernel_rfl) (fun _ _ _ h => h) (Or.inl ⟨by rfl, ?_⟩) (by assumption) ?_
  rotate_left
  · (intro w hSw; (try dsimp only at hSw); go_split_ands; go_simp) <;> with_reducible rfl
  (try simp only [Act.put, List.setIfInBounds_toArray, List.set_cons_zero, List.set_cons_succ, List.getElem_toArray, List.getElem_cons_succ, List.getElem_cons_zero])
  refine Rg.one (i := 12) rfl (by kernel_rfl) (by kernel_rfl) (fun K hK => ?_)
  go_simp; go_at_call 103; refine (over_any vA l[node].bs.length vc l[node].bs a da b.length dc b _ (HBY.out.drewN (nq + 1)) ((HBB.out.below HB0.out).drewN (nq + 1)) (by omega) (by omega) (by omega)).mono ?_; rintro e W2 ⟨v2, rfl, ho2, hB2⟩; replace hB2 : Below W.heap.size W W2 := (pw_below_drewN (Below.refl _ _) (nq + 1)).trans hB2; have hk2 := HBK.out _ _ _ _ hB2 x2; have hk1 := HBK.out _ _ _ _ hB2 c1; have hk6 := HBK.out _ _ _ _ hB2 s6
  refine hK.out _ _ ⟨hk2, hk1, hk6⟩ (fun hHeld => ?_)
  clear hK K
  (try simp only [Act.put, List.setIfInBounds_toArray, List.set_cons_zero, List.set_cons_succ, List.getElem_toArray, List.getElem_cons_succ, List.getElem_cons_zero])
  refine Rg.rest _ rfl rfl (by kernel_rfl) (by kernel_rfl) ?_
  simp only [List.drop_succ_cons, List.drop_zero]
  clear hk2 hk1 hk6 hHeld
  obtain ⟨DA, dc2, hv2⟩ := own_slice ho2; subst hv2; have hC2 := HC.out.below hB2; clear c0 c1 c3 c4 f1 f3 s0 s6 s7 s8 s9 p0 p1 p2 p3 p4 p5 q0 q1 q2 q3 q4 q5 x0 x1 x2 x3 x4 m2 z2 z3; obtain ⟨u2, x2, x3, z2, z3⟩ := hC2.node rfl hi; have c0 := (cell_of hC2.hand 0).trans rfl; have c1 := (cell_of hC2.hand 1).trans rfl; have f1 := free_of hC2.hand 1; have ha2 := (hB2.block _ (lt_of_heap HA0.out)).trans HA0.out; have hs2 := (hB2.block _ (lt_of_heap HS0.out)).trans HS0.out; have s6 := (cell_of hs2 6).trans rfl; have s7 := (cell_of hs2 7).trans rfl; obtain ⟨⟨p0, p1, p2, p3, p4, p5⟩, q0, q1, q2, q3, q4, q5⟩ := cells6 ha2; have HC2 := Lib.hid hC2; have HO2 := Lib.hid ho2; clear hC2 ho2 hB2 ha2 hs2
  go_upto_region 50 with fail
  have hsum : IntKind.i64.wrap ((a : Int) + (b.length : Int)) = (a : Int) + b.length := IntWalk.i64_in _ (by omega)
  refine still_tail' 10 (by kernel_rfl) (by kernel_rfl) ?_
  simp only [List.take_succ_cons, List.take_zero, List.drop_succ_cons, List.drop_zero]
  repeat still_step
  refine wpStill_nil ?_
  clear hsum
  go_wp2_with fail
  refine bodyPost_ret (v := ansVal 0 b.length 0 (.slice none 0 0)) (by simp [results, Tryd.results85, go_sem, ansVal, p0, p1, p2, p3, p4, p5]) rfl ?_
  refine Core.post (a := ⟨0, b.length, 0, []⟩) (ab := sb + 1) ?_
  rw [← overw_lay]
  have hC := HC2.out.setData rfl hi (row_le HO2.out (Nat.le_trans hB (Nat.le_trans HB0.out.size (Nat.le_refl _)))) (by rw [overw_lay]; exact lay_fit HF.out HBB.out.fits _) 0
  replace hC := hC.setAt ((a : Int) + b.length)
  repeat (first | with_reducible exact hC | with_reducible refine Core.set ?_ _ _ | with_reducible refine Core.drew ?_)
set_option maxRecDepth 100000 in
set_option maxHeartbeats 2000000 in
theorem file_writeAt (m hb B mb : Nat) (nv av dv : Value) (l : List SN) (h : SH) (s : Stp) (w : World) (hop : s.op = 15) (hM : MemIs w m nv av dv mb) (hH : SHIs w hb h) (hN : NodesIs w B dv l) (hi : h.node < l.length) (a : Nat) (hat : s.off = (a : Int)) (ha : a ≤ 1000000) (hcl : h.cl = false) (hro : h.ro = false) (b : List Int) (hby : BytesIn w s.da s.dl s.dc b) (hbl : b.length ≤ 1000000) (h3 : l[h.node].bs.length ≤ 1000000) (hB : B ≤ w.heap.size) :
    Calls Tryd.prog 85 #[.pointer (some ⟨m, 0, none⟩), .pointer (some ⟨hb, 0, none⟩), s.val] w (FilePost w hb B dv l h.node ⟨0, b.length, 0, []⟩ { h with at_ := (a : Int) + b.length } { l[h.node] with bs := lay l[h.node].bs a b, time := 0 }) := by
  obtain ⟨op, name, other, flag, perm, hh, da, dl, dc, off, wh, n⟩ := s
  obtain ⟨node, at_, listed, cl, ro⟩ := h
  simp only at hop hat hcl hro hby h3 hi ⊢
  have hdl := hby.len
  subst hop hat hcl hro hdl
  have HBB := Lib.hid hby
  clear hby
  unfold Stp.val
  simp only
  go_enter Tryd.func85, Tryd.ntmps85
  go_upto_region 1 with fail
  obtain ⟨W, hW⟩ : ∃ W, ((w.alloc (.cells #[.int .i64 15, .string name, .string other, .int .i64 flag, .int .i64 perm, .int .i64 hh, .slice da b.length dc, .int .i64 (a : Int), .int .i64 wh, .int .i64 n] tStep)).alloc (.cells #[.int .i64 0, .int .i64 0, .int .i64 0, .slice none 0 0, .slice none 0 0, .slice none 0 0] tAns)) = W := ⟨_, rfl⟩
  have hs0 := two_old w (.cells #[.int .i64 15, .string name, .string other, .int .i64 flag, .int .i64 perm, .int .i64 hh, .slice da b.length dc, .int .i64 (a : Int), .int .i64 wh, .int .i64 n] tStep) (.cells #[.int .i64 0, .int .i64 0, .int .i64 0, .slice none 0 0, .slice none 0 0, .slice none 0 0] tAns)
  have ha0 := two_new w (.cells #[.int .i64 15, .string name, .string other, .int .i64 flag, .int .i64 perm, .int .i64 hh, .slice da b.length dc, .int .i64 (a : Int), .int .i64 wh, .int .i64 n] tStep) (.cells #[.int .i64 0, .int .i64 0, .int .i64 0, .slice none 0 0, .slice none 0 0, .slice none 0 0] tAns)
  have hB0 := two_below w (.cells #[.int .i64 15, .string name, .string other, .int .i64 flag, .int .i64 perm, .int .i64 hh, .slice da b.length dc, .int .i64 (a : Int), .int .i64 wh, .int .i64 n] tStep) (.cells #[.int .i64 0, .int .i64 0, .int .i64 0, .slice none 0 0, .slice none 0 0, .slice none 0 0] tAns)
  rw [hW] at hs0 ha0 hB0
  have hW2 : ∀ {P} {c : Code} {Q : Exit → Act → World → Prop} {a : Act}, c.wp P Q a W → c.wp P Q a _ := fun {P c Q a} h => hW.symm ▸ h
  refine hW2 ?_
  clear hW2 hW
  have hM1 := hM.below hB0
  have hH1 := hH.below hB0
  have hN1 := NodesIs.below hN hB0
  obtain ⟨nb, cap, v, rfl, hle, hnb, ⟨x0, x1, x2, x3, x4⟩, hov, hf, hz⟩ := NodesIs.at hN1 hi
  obtain ⟨vA, vc, rfl, hby⟩ := BytesIn.own hov hf
  have HBY := Lib.hid hby
  clear hby
  have m2 := (cell_of hM1 2).trans rfl
  have c0 := (cell_of hH1 0).trans rfl
  have c1 := (cell_of hH1 1).trans rfl
  have c3 := (cell_of hH1 3).trans rfl
  have c4 := (cell_of hH1 4).trans rfl
  have f1 := free_of hH1 1
  have f3 := free_of hH1 3
  have s0 := (cell_of hs0 0).trans rfl
  have s6 := (cell_of hs0 6).trans rfl
  have s7 := (cell_of hs0 7).trans rfl
  have s8 := (cell_of hs0 8).trans rfl
  have s9 := (cell_of hs0 9).trans rfl
  obtain ⟨⟨p0, p1, p2, p3, p4, p5⟩, q0, q1, q2, q3, q4, q5⟩ := cells6 ha0
  have htab : Typed W (w.heap.size + 1) tAns := Typed.of ha0
  have hcore : Core w W hb B _ l _ (.slice none 0 0) [] (w.heap.size + 1) := ⟨hH1, hN1, Wrote.of_below hB0, World.ownsRow_nil _ _ _ _, htab, Nat.le_add_right _ 1⟩
  have n1 : w.heap.size ≠ hb := blk_ne hs0 hH1 (by decide)
  have n2 : w.heap.size + 1 ≠ hb := blk_ne ha0 hH1 (by decide)
  have n3 : w.heap.size ≠ nb := by obtain ⟨c, hc⟩ := hnb; exact blk_ne hs0 hc (by decide)
  have n4 : w.heap.size + 1 ≠ nb := by obtain ⟨c, hc⟩ := hnb; exact blk_ne ha0 hc (by decide)
  have n5 : hb ≠ nb := by obtain ⟨c, hc⟩ := hnb; exact blk_ne hH1 hc (by decide)
  have HC := Lib.hid hcore
  have HLE := Lib.hid hle
  have HZ := Lib.hid hz
  have z2 := hz (node * 5 + 2)
  have z3 := hz (node * 5 + 3)
  have HF := Lib.hid hf
  have HM := Lib.hid hM1
  have HB0 := Lib.hid hB0
  have HOV := Lib.hid hov
  have HA0 := Lib.hid ha0
  have HS0 := Lib.hid hs0
  clear hle hz hf hN hH hM hN1 hH1 hM1 hB0 hs0 ha0 hov htab hnb hcore
  obtain ⟨sb, hsb⟩ : ∃ sb, w.heap.size = sb := ⟨_, rfl⟩
  rw [hsb] at s0 s6 s7 s8 s9 p0 p1 p2 p3 p4 p5 q0 q1 q2 q3 q4 q5 HC HA0 HS0 n1 n2 n3 n4 ⊢
  have HSB := Lib.hid hsb
  clear hsb
  have e0 : decide ((a : Int) < 0) = false := by simp
  have e1 : decide ((1048576 : Int) < (a : Int)) = false := by simp; omega
  go_quiet (fail)
  go_upto_region 52 with fail
  have hblk : ∀ (k : Nat) (j : Nat) (u : Value) (W' : World), Below W.heap.size W W' → W.cell? ⟨k, j, none⟩ = some u → W'.cell? ⟨k, j, none⟩ = some u := fun k j u W' hb hc => (hb.cell (p := ⟨k, j, none⟩) (cell_lt hc)).trans hc
  have HBK := Lib.hid hblk
  clear hblk
  refine Rg.start1 (i := 1) (v := ?_) (fuel := 16) 11 (fun w' => w'.cell? ⟨nb, node * 5 + 2, none⟩ = some (.slice vA l[node].bs.length vc) ∧ w'.cell? ⟨sb, 7, none⟩ = some (.int .i64 (a : Int)) ∧ w'.cell? ⟨sb, 6, none⟩ = some (.slice da b.length dc)) (by kernel_rfl) rfl rfl (by kernel_rfl) (by kernel_rfl) (by kernel_rfl) (fun _ _ _ h => h) (Or.inl ⟨by rfl, ?_⟩) ⟨x2, s7, s6⟩ ?_
  rotate_left
  · (intro w hSw; (try dsimp only at hSw); go_split_ands; go_simp) <;> with_reducible rfl
  intro hHeld
  (try simp only [Act.put, List.setIfInBounds_toArray, List.set_cons_zero, List.set_cons_succ, List.getElem_toArray, List.getElem_cons_succ, List.getElem_cons_zero])
  refine Rg.take (i := 0) (v := ?_) rfl (by kernel_rfl) (by kernel_rfl) (by kernel_rfl) (by kernel_rfl) (by kernel_rfl) (by kernel_rfl) (fun _ _ _ h => h) (Or.inl ⟨by rfl, ?_⟩) (by assumption) ?_
  rotate_left
  · (intro w hSw; (try dsimp only at hSw); go_split_ands; go_simp) <;> with_reducible rfl
  (try simp only [Act.put, List.setIfInBounds_toArray, List.set_cons_zero, List.set_cons_succ, List.getElem_toArray, List.getElem_cons_succ, List.getElem_cons_zero])
  refine Rg.take (i := 2) (v := ?_) rfl (by kernel_rfl) (by kernel_rfl) (by kernel_rfl) (by kernel_rfl) (by kernel_rfl) (by kernel_rfl) (fun _ _ _ h => h) (Or.inl ⟨by rfl, ?_⟩) (by assumption) ?_
  rotate_left
  · (intro w hSw; (try dsimp only at hSw); go_split_ands; go_simp) <;> with_reducible rfl
  (try simp only [Act.put, List.setIfInBounds_toArray, List.set_cons_zero, List.set_cons_succ, List.getElem_toArray, List.getElem_cons_succ, List.getElem_cons_zero])
  refine Rg.take (i := 3) (v := ?_) rfl (by kernel_rfl) (by kernel_rfl) (by kernel_rfl) (by kernel_rfl) (by kernel_rfl) (by kernel_rfl) (fun _ _ _ h => h) (Or.inl ⟨by rfl, ?_⟩) (by assumption) ?_
  rotate_left
  · (intro w hSw; (try dsimp only at hSw); go_split_ands; go_simp) <;> with_reducible rfl
  (try simp only [Act.put, List.setIfInBounds_toArray, List.set_cons_zero, List.set_cons_succ, List.getElem_toArray, List.getElem_cons_succ, List.getElem_cons_zero])
  refine Rg.take (i := 4) (v := ?_) rfl (by kernel_rfl) (by kernel_rfl) (by kernel_rfl) (by kernel_rfl) (by kernel_rfl) (by kernel_rfl) (fun _ _ _ h => h) (Or.inl ⟨by rfl, ?_⟩) (by assumption) ?_
  rotate_left
  · (intro w hSw; (try dsimp only at hSw); go_split_ands; go_simp) <;> with_reducible rfl
  (try simp only [Act.put, List.setIfInBounds_toArray, List.set_cons_zero, List.set_cons_succ, List.getElem_toArray, List.getElem_cons_succ, List.getElem_cons_zero])
  refine Rg.take (i := 5) (v := ?_) rfl (by kernel_rfl) (by kernel_rfl) (by kernel_rfl) (by kernel_rfl) (by kernel_rfl) (by kernel_rfl) (fun _ _ _ h => h) (Or.inl ⟨by rfl, ?_⟩) (by assumption) ?_
  rotate_left
  · (intro w hSw; (try dsimp only at hSw); go_split_ands; go_simp) <;> with_reducible rfl
  (try simp only [Act.put, List.setIfInBounds_toArray, List.set_cons_zero, List.set_cons_succ, List.getElem_toArray, List.getElem_cons_succ, List.getElem_cons_zero])
  refine Rg.take (i := 6) (v := ?_) rfl (by kernel_rfl) (by kernel_rfl) (by kernel_rfl) (by kernel_rfl) (by kernel_rfl) (by kernel_rfl) (fun _ _ _ h => h) (Or.inl ⟨by rfl, ?_⟩) (by assumption) ?_
  rotate_left
  · (intro w hSw; (try dsimp only at hSw); go_split_ands; go_simp) <;> with_reducible rfl
  (try simp only [Act.put, List.setIfInBounds_toArray, List.set_cons_zero, List.set_cons_succ, List.getElem_toArray, List.getElem_cons_succ, List.getElem_cons_zero])
  refine Rg.take (i := 7) (v := ?_) rfl (by kernel_rfl) (by kernel_rfl) (by kernel_rfl) (by kernel_rfl) (by kernel_rfl) (by kernel_rfl) (fun _ _ _ h => h) (Or.inl ⟨by rfl, ?_⟩) (by assumption) ?_
  rotate_left
  · (intro w hSw; (try dsimp only at hSw); go_split_ands; go_simp) <;> with_reducible rfl
  (try simp only [Act.put, List.setIfInBounds_toArray, List.set_cons_zero, List.set_cons_succ, List.getElem_toArray, List.getElem_cons_succ, List.getElem_cons_zero])
  refine Rg.take (i := 8) (v := ?_) rfl (by kernel_rfl) (by kernel_rfl) (by kernel_rfl) (by kernel_rfl) (by kernel_rfl) (by kernel_rfl) (fun _ _ _ h => h) (Or.inl ⟨by rfl, ?_⟩) (by assumption) ?_
  rotate_left
  · (intro w hSw; (try dsimp only at hSw); go_split_ands; go_simp) <;> with_reducible rfl
  (try simp only [Act.put, List.setIfInBounds_toArray, List.set_cons_zero, List.set_cons_succ, List.getElem_toArray, List.getElem_cons_succ, List.getElem_cons_zero])
  refine Rg.take (i := 9) (v := ?_) rfl (by kernel_rfl) (by kernel_rfl) (by kernel_rfl) (by kernel_rfl) (by kernel_rfl) (by kernel_rfl) (fun _ _ _ h => h) (Or.inl ⟨by rfl, ?_⟩) (by assumption) ?_
  rotate_left
  · (intro w hSw; (try dsimp only at hSw); go_split_ands; go_simp) <;> with_reducible rfl
  (try simp only [Act.put, List.setIfInBounds_toArray, List.set_cons_zero, List.set_cons_succ, List.getElem_toArray, List.getElem_cons_succ, List.getElem_cons_zero])
  refine Rg.one (i := 10) rfl (by kernel_rfl) (by kernel_rfl) (fun K hK => ?_)
  go_simp; go_at_call 103; refine (over_any vA l[node].bs.length vc l[node].bs a da b.length dc b _ (HBY.out.drewN (nq + 1)) ((HBB.out.below HB0.out).drewN (nq + 1)) (by omega) (by omega) (by omega)).mono ?_; rintro e W2 ⟨v2, rfl, ho2, hB2⟩; replace hB2 : Below W.heap.size W W2 := (pw_below_drewN (Below.refl _ _) (nq + 1)).trans hB2; have hk2 := HBK.out _ _ _ _ hB2 x2; have hk1 := HBK.out _ _ _ _ hB2 s7; have hk6 := HBK.out _ _ _ _ hB2 s6
  refine hK.out _ _ ⟨hk2, hk1, hk6⟩ (fun hHeld => ?_)
  clear hK K
  (try simp only [Act.put, List.setIfInBounds_toArray, List.set_cons_zero, List.set_cons_succ, List.getElem_toArray, List.getElem_cons_succ, List.getElem_cons_zero])
  refine Rg.rest _ rfl rfl (by kernel_rfl) (by kernel_rfl) ?_
  simp only [List.drop_succ_cons, List.drop_zero]
  clear hk2 hk1 hk6 hHeld
  obtain ⟨DA, dc2, hv2⟩ := own_slice ho2; subst hv2; have hC2 := HC.out.below hB2; clear c0 c1 c3 c4 f1 f3 s0 s6 s7 s8 s9 p0 p1 p2 p3 p4 p5 q0 q1 q2 q3 q4 q5 x0 x1 x2 x3 x4 m2 z2 z3; obtain ⟨u2, x2, x3, z2, z3⟩ := hC2.node rfl hi; have c0 := (cell_of hC2.hand 0).trans rfl; have c1 := (cell_of hC2.hand 1).trans rfl; have f1 := free_of hC2.hand 1; have ha2 := (hB2.block _ (lt_of_heap HA0.out)).trans HA0.out; have hs2 := (hB2.block _ (lt_of_heap HS0.out)).trans HS0.out; have s6 := (cell_of hs2 6).trans rfl; have s7 := (cell_of hs2 7).trans rfl; obtain ⟨⟨p0, p1, p2, p3, p4, p5⟩, q0, q1, q2, q3, q4, q5⟩ := cells6 ha2; have HC2 := Lib.hid hC2; have HO2 := Lib.hid ho2; clear hC2 ho2 hB2 ha2 hs2
  go_wp2_with fail
  refine bodyPost_ret (v := ansVal 0 b.length 0 (.slice none 0 0)) (by simp [results, Tryd.results85, go_sem, ansVal, p0, p1, p2, p3, p4, p5]) rfl ?_
  refine Core.post (a := ⟨0, b.length, 0, []⟩) (ab := sb + 1) ?_
  rw [← overw_lay]
  have hC := HC2.out.setData rfl hi (row_le HO2.out (Nat.le_trans hB (Nat.le_trans HB0.out.size (Nat.le_refl _)))) (by rw [overw_lay]; exact lay_fit HF.out HBB.out.fits _) 0
  replace hC := hC.setAt ((a : Int) + b.length)
  repeat (first | with_reducible exact hC | with_reducible refine Core.set ?_ _ _ | with_reducible refine Core.drew ?_)
end Sb
end Go.Proofs.YtnkhfdnahnphdaaDoor
end
