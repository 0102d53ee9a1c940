/- FnAttributesFit: the walk of addXattr. -/
import Derived.Test.YtjpahogldfmaeabDoorAfWalk
import Derived.Test.YtjpahogldfmaeabDoorKx
import Derived.Maps.AppendAt
import Derived.Deep.AppendLies
import Derived.Deep.RegionLaw
namespace Go.Proofs.YtjpahogldfmaeabDoor
open Go.ChangeShapes Go.WideShapes Go.ChangeAt Go.RowKit Go.Rd

theorem own_below {w w' : World} {base : Nat} {e : TypeId} {size : Nat} {v : Value} {n : Nat} {xs : List Value} (h : w.ownsRow base e size v n xs) (hb : Below w.heap.size w w') : w'.ownsRow base e size v n xs := by
  obtain ⟨h1, h2⟩ := h
  rcases h2 with h2 | ⟨g, cap, cur, hv, hg, hh, rest⟩
  · exact ⟨h1, .inl h2⟩
  · exact ⟨h1, .inr ⟨g, cap, cur, hv, hg, (hb.block g (lt_of_heap hh)).trans hh, rest⟩⟩

theorem keep_block {W w' : World} {b : Nat} {c : Array Value} {t : TypeId} {fr : Nat × Nat} {row : Option Nat} {o : Obj} (h : W.heap[b]? = some (.cells c t fr)) (hg : ((W.alloc o).drew).grownBy w' row) (hne : some b ≠ row) : w'.heap[b]? = some (.cells c t fr) := by
  have h1 : ((W.alloc o).drew).heap[b]? = some (.cells c t fr) := alloc_keeps h o
  exact (hg.block b (lt_of_heap h1) hne).trans h1

/-- The types of the state's blocks. -/
def XT (t : TypeId) : Prop := t = 55 ∨ t = 61
def XState (w : World) (b n0 n1 : Nat) (x y : Int) : Prop :=
  ∃ v0 v1 xs0 xs1, w.heap[b]? = some (.cells #[v0, v1, .int .i64 x, .int .i64 y] 55 (0, 0)) ∧ w.ownsRow (b + 1) 61 3 v0 n0 xs0 ∧ w.ownsRow (b + 1) 61 3 v1 n1 xs1 ∧ (v1.ownBlock = none ∨ v1.ownBlock ≠ v0.ownBlock)

theorem Tryd.info61 : (Tryd.prog.info? 61).map (fun i => (i.zero, i.size, i.bytes)) = some (some (.agg #[.string ⟨#[]⟩, .int .u8 0, .slice none 0 0]), 3, 48) := by kernel_rfl
set_option maxHeartbeats 1000000 in
theorem add_inode (b n0 n1 : Nat) (x y : Int) (s : ByteArray) (a : Option Addr) (len cap : Nat) (w : World) (hs : s.size ≤ maxLen) (R : Int × ByteArray) (hR : Hid (pick s prefs = R)) (hr : R.2.size ≤ 2147483647) (hl : len ≤ 2147483647)
    (ty : TypeId) (fr : Nat × Nat) (hT : w.heap[0]? = some (.cells tab ty fr)) (hX : XState w b n0 n1 x y) (hfit : (up4 R.2.size + 16 + up4 len : Nat) ≤ x) (hx : x ≤ 100000) (hn : n0 ≤ 100000) :
    Calls Tryd.prog 20 #[.pointer (some ⟨b, 0, none⟩), .string s, .slice a len cap] w fun e w' => e = .returned (.bool true) ∧ XState w' b (n0 + 1) n1 (x - ((up4 R.2.size : Nat) + 16 + (up4 len : Nat))) y ∧ Below b w w' ∧ KeepT XT w w' := by
  obtain ⟨i0, hi, hz0, hz1, hz2⟩ := info_parts Tryd.info61
  obtain ⟨v0, v1, xs0, xs1, hst, hown0, hown1, hne⟩ := hX
  have hbw := lt_of_heap hst
  go_enter Tryd.func20, Tryd.ntmps20
  go_wp2_with (go_at_call 21; refine (compress_any s _ hs ty fr hT R hR).mono ?_; rintro e w1 ⟨rfl, hb1⟩)
  have hst1 : w1.heap[b]? = some (.cells #[v0, v1, .int .i64 x, .int .i64 y] 55 (0, 0)) := (hb1.block b hbw).trans hst
  have hst2 := alloc_keeps hst1 (Obj.cells #[Value.string R.snd, Value.int IntKind.u8 R.fst, Value.slice a len cap] 61)
  have hx2 := alloc_new w1 (Obj.cells #[Value.string R.snd, Value.int IntKind.u8 R.fst, Value.slice a len cap] 61)
  generalize hW2 : w1.alloc (Obj.cells #[Value.string R.snd, Value.int IntKind.u8 R.fst, Value.slice a len cap] 61) = W2 at *
  generalize hB2 : w1.heap.size = B2 at *
  have HW2 := Lib.hid hW2
  have HB2 := Lib.hid hB2
  clear hW2 hB2
  have hb2 : Below w.heap.size w W2 := by rw [← HW2.out]; exact hb1.alloc hb1.size _
  have o0 := Lib.hid (own_below hown0 hb2)
  have o1 := Lib.hid (own_below hown1 hb2)
  have c0 : W2.cell? ⟨b, 0, none⟩ = some v0 := (cell_of hst2 0).trans rfl
  have c1 : W2.cell? ⟨b, 1, none⟩ = some v1 := (cell_of hst2 1).trans rfl
  have c2 : W2.cell? ⟨b, 2, none⟩ = some (.int .i64 x) := (cell_of hst2 2).trans rfl
  have u4a := up4_le R.2.size
  have u4b := up4_le len
  have d0 : W2.cell? ⟨B2, 0, none⟩ = some (.string R.2) := (cell_of hx2 0).trans rfl
  have d1 : W2.cell? ⟨B2, 1, none⟩ = some (.int .u8 R.1) := (cell_of hx2 1).trans rfl
  have d2 : W2.cell? ⟨B2, 2, none⟩ = some (.slice a len cap) := (cell_of hx2 2).trans rfl
  go_wp2_with (first
    | (go_at_call 22; refine (entry_len B2 R.2 R.1 _ _ hx2 hr).mono ?_; rintro e w' ⟨rfl, rfl⟩)
    | (go_at_call 23; refine (value_len B2 _ R.1 a len cap _ hx2 hl).mono ?_; rintro e w' ⟨rfl, rfl⟩))
  have c0' : (W2.alloc (Obj.cells #[Value.string R.2, Value.int .u8 R.1, Value.slice a len cap] 61)).cell? ⟨b, 0, none⟩ = some v0 := (cell_of (alloc_keeps hst2 _) 0).trans rfl
  have hneb : some b ≠ v0.ownBlock := by
    intro e
    have := (hown0.lt b e.symm).1
    omega
  go_region_law (refine step_append_lies _ rfl (.tmp 32) (.tmp 34) 53 rfl (b + 1) 61 i0 (.agg #[.string ⟨#[]⟩, .int .u8 0, .slice none 0 0]) 3 48 Tryd.underlying53 hi hz0 hz1 hz2 rfl (by decide) v0 n0 xs0 (by simp [Act.eval]) (World.ownsRow.alloc (World.ownsRow.drew o0.out) _) ⟨W2.heap.size, 0, none⟩ 1 1 [.string R.2, .int .u8 R.1, .slice a len cap] (by simp [Act.eval]) rfl (cells_new W2.drew #[Value.string R.2, Value.int .u8 R.1, Value.slice a len cap] 61 W2.heap.size rfl _ rfl) (by intro u hu; simp at hu; rcases hu with rfl | rfl | rfl <;> rfl) (by decide) (by unfold maxLen; omega) (by omega) (by have := hb2.size; simp; omega) _ rfl ?_; intro g cap' w' hown' hgrow' hloc hlt'; have k0 : w'.heap[b]? = some (.cells #[v0, v1, .int .i64 x, .int .i64 y] 55 (0, 0)) := keep_block hst2 hgrow' hneb; have k1 := (cell_of k0 0).trans rfl; have k2 := free_of k0 0)
  all_goals
    have m0 : (w'.setCell ⟨b, 0, none⟩ (Value.slice (some ⟨g, 0, none⟩) (n0 + 1) cap')).heap[b]? = some (.cells #[Value.slice (some ⟨g, 0, none⟩) (n0 + 1) cap', v1, .int .i64 x, .int .i64 y] 55 (0, 0)) := Go.Rd.heap_setCell_same (o := 0) k0 _
    generalize hW3 : w'.setCell ⟨b, 0, none⟩ (Value.slice (some ⟨g, 0, none⟩) (n0 + 1) cap') = W3 at *
    have e2 : W3.cell? ⟨b, 2, none⟩ = some (.int .i64 x) := (cell_of m0 2).trans rfl
    have f2 := free_of m0 2
    go_wp2
    go_ret
    have bw : Below b w w' := by
      have h1 := hb2.mono (Nat.le_of_lt hbw)
      have h2 := ((h1.alloc (Nat.le_trans (Nat.le_of_lt hbw) hb2.size) (Obj.cells #[Value.string R.2, Value.int .u8 R.1, Value.slice a len cap] 61)).drew)
      exact h2.grown hgrow' (Nat.le_trans (Nat.le_of_lt hbw) h2.size) (fun k hk => by have := (hown0.lt k hk).1; omega)
    have bw3 : Below b w W3 := by rw [← hW3]; exact bw.setCell (Nat.le_refl b) _
    have kt : KeepT XT w (W3.setCell ⟨b, 2, none⟩ (.int .i64 (x - ((up4 R.2.size : Nat) + 16 + (up4 len : Nat))))) := by
      have k1 := (KeepT.of_below (T := XT) hb2).below (((Below.refl _ _).alloc (Nat.le_refl _) (Obj.cells #[Value.string R.2, Value.int .u8 R.1, Value.slice a len cap] 61)).drew)
      have k2 := k1.grown_own (World.ownsRow.drew (World.ownsRow.alloc o0.out _)) (Or.inr rfl) hgrow'
      have k3 : KeepT XT w W3 := by rw [← hW3]; exact k2.set (p := ⟨b, 0, none⟩) k0 (Or.inl rfl) _
      exact k3.set (p := ⟨b, 2, none⟩) m0 (Or.inl rfl) _
    refine ⟨rfl, ⟨_, v1, xs0 ++ [.string R.2, .int .u8 R.1, .slice a len cap], xs1, Go.Rd.heap_setCell_same (o := 2) m0 _, ?_, ?_, ?_⟩, bw3.setCell (Nat.le_refl b) _, kt⟩
    · rw [← hW3]
      exact ownsRow_setCell_below (ownsRow_setCell_below hown' (Nat.lt_succ_self b) _) (Nat.lt_succ_self b) _
    · rw [← hW3]
      exact ownsRow_setCell_below (ownsRow_setCell_below ((World.ownsRow.drew (World.ownsRow.alloc o1.out _)).kept hgrow' hne) (Nat.lt_succ_self b) _) (Nat.lt_succ_self b) _
    · rcases hloc with h | h
      · rcases hne with h2 | h2
        · exact .inl h2
        · exact .inr (by rw [h] at h2; exact h2)
      · cases h2 : v1.ownBlock with
        | none => exact .inl rfl
        | some k =>
          right
          have := (o1.out.lt k h2).2
          intro e
          have e2 : k = g := by simpa [Value.ownBlock] using e
          simp at h
          omega

set_option maxHeartbeats 1000000 in
theorem add_block (b n0 n1 : Nat) (x y : Int) (s : ByteArray) (a : Option Addr) (len cap : Nat) (w : World) (hs : s.size ≤ maxLen) (R : Int × ByteArray) (hR : Hid (pick s prefs = R)) (hr : R.2.size ≤ 2147483647) (hl : len ≤ 2147483647)
    (ty : TypeId) (fr : Nat × Nat) (hT : w.heap[0]? = some (.cells tab ty fr)) (hX : XState w b n0 n1 x y) (hno : x < (up4 R.2.size + 16 + up4 len : Nat)) (hfit : (up4 R.2.size + 16 + up4 len : Nat) ≤ y) (hy : y ≤ 100000) (hn : n1 ≤ 100000) :
    Calls Tryd.prog 20 #[.pointer (some ⟨b, 0, none⟩), .string s, .slice a len cap] w fun e w' => e = .returned (.bool true) ∧ XState w' b n0 (n1 + 1) x (y - ((up4 R.2.size : Nat) + 16 + (up4 len : Nat))) ∧ Below b w w' ∧ KeepT XT w w' := by
  obtain ⟨i0, hi, hz0, hz1, hz2⟩ := info_parts Tryd.info61
  obtain ⟨v0, v1, xs0, xs1, hst, hown0, hown1, hne⟩ := hX
  have hbw := lt_of_heap hst
  go_enter Tryd.func20, Tryd.ntmps20
  go_wp2_with (go_at_call 21; refine (compress_any s _ hs ty fr hT R hR).mono ?_; rintro e w1 ⟨rfl, hb1⟩)
  have hst1 : w1.heap[b]? = some (.cells #[v0, v1, .int .i64 x, .int .i64 y] 55 (0, 0)) := (hb1.block b hbw).trans hst
  have hst2 := alloc_keeps hst1 (Obj.cells #[Value.string R.snd, Value.int IntKind.u8 R.fst, Value.slice a len cap] 61)
  have hx2 := alloc_new w1 (Obj.cells #[Value.string R.snd, Value.int IntKind.u8 R.fst, Value.slice a len cap] 61)
  generalize hW2 : w1.alloc (Obj.cells #[Value.string R.snd, Value.int IntKind.u8 R.fst, Value.slice a len cap] 61) = W2 at *
  generalize hB2 : w1.heap.size = B2 at *
  have HW2 := Lib.hid hW2
  have HB2 := Lib.hid hB2
  clear hW2 hB2
  have hb2 : Below w.heap.size w W2 := by rw [← HW2.out]; exact hb1.alloc hb1.size _
  have o0 := Lib.hid (own_below hown0 hb2)
  have o1 := Lib.hid (own_below hown1 hb2)
  have c0 : W2.cell? ⟨b, 0, none⟩ = some v0 := (cell_of hst2 0).trans rfl
  have c1 : W2.cell? ⟨b, 1, none⟩ = some v1 := (cell_of hst2 1).trans rfl
  have c3 : W2.cell? ⟨b, 3, none⟩ = some (.int .i64 y) := (cell_of hst2 3).trans rfl
  have c2 : W2.cell? ⟨b, 2, none⟩ = some (.int .i64 x) := (cell_of hst2 2).trans rfl
  have u4a := up4_le R.2.size
  have u4b := up4_le len
  have d0 : W2.cell? ⟨B2, 0, none⟩ = some (.string R.2) := (cell_of hx2 0).trans rfl
  have d1 : W2.cell? ⟨B2, 1, none⟩ = some (.int .u8 R.1) := (cell_of hx2 1).trans rfl
  have d2 : W2.cell? ⟨B2, 2, none⟩ = some (.slice a len cap) := (cell_of hx2 2).trans rfl
  go_wp2_with (first
    | (go_at_call 22; refine (entry_len B2 R.2 R.1 _ _ hx2 hr).mono ?_; rintro e w' ⟨rfl, rfl⟩)
    | (go_at_call 23; refine (value_len B2 _ R.1 a len cap _ hx2 hl).mono ?_; rintro e w' ⟨rfl, rfl⟩))
  have c0' : (W2.alloc (Obj.cells #[Value.string R.2, Value.int .u8 R.1, Value.slice a len cap] 61)).cell? ⟨b, 1, none⟩ = some v1 := (cell_of (alloc_keeps hst2 _) 1).trans rfl
  have hneb : some b ≠ v1.ownBlock := by
    intro e
    have := (hown1.lt b e.symm).1
    omega
  go_region_law (refine step_append_lies _ rfl (.tmp 56) (.tmp 58) 53 rfl (b + 1) 61 i0 (.agg #[.string ⟨#[]⟩, .int .u8 0, .slice none 0 0]) 3 48 Tryd.underlying53 hi hz0 hz1 hz2 rfl (by decide) v1 n1 xs1 (by simp [Act.eval]) (World.ownsRow.alloc (World.ownsRow.drew o1.out) _) ⟨W2.heap.size, 0, none⟩ 1 1 [.string R.2, .int .u8 R.1, .slice a len cap] (by simp [Act.eval]) rfl (cells_new W2.drew #[Value.string R.2, Value.int .u8 R.1, Value.slice a len cap] 61 W2.heap.size rfl _ rfl) (by intro u hu; simp at hu; rcases hu with rfl | rfl | rfl <;> rfl) (by decide) (by unfold maxLen; omega) (by omega) (by have := hb2.size; simp; omega) _ rfl ?_; intro g cap' w' hown' hgrow' hloc hlt'; have k0 : w'.heap[b]? = some (.cells #[v0, v1, .int .i64 x, .int .i64 y] 55 (0, 0)) := keep_block hst2 hgrow' hneb; have k1 := (cell_of k0 1).trans rfl; have k2 := free_of k0 1)
  all_goals
    have m0 : (w'.setCell ⟨b, 1, none⟩ (Value.slice (some ⟨g, 0, none⟩) (n1 + 1) cap')).heap[b]? = some (.cells #[v0, Value.slice (some ⟨g, 0, none⟩) (n1 + 1) cap', .int .i64 x, .int .i64 y] 55 (0, 0)) := Go.Rd.heap_setCell_same (o := 1) k0 _
    generalize hW3 : w'.setCell ⟨b, 1, none⟩ (Value.slice (some ⟨g, 0, none⟩) (n1 + 1) cap') = W3 at *
    have e2 : W3.cell? ⟨b, 3, none⟩ = some (.int .i64 y) := (cell_of m0 3).trans rfl
    have f2 := free_of m0 3
    go_wp2
    go_ret
    have bw : Below b w w' := by
      have h1 := hb2.mono (Nat.le_of_lt hbw)
      have h2 := ((h1.alloc (Nat.le_trans (Nat.le_of_lt hbw) hb2.size) (Obj.cells #[Value.string R.2, Value.int .u8 R.1, Value.slice a len cap] 61)).drew)
      exact h2.grown hgrow' (Nat.le_trans (Nat.le_of_lt hbw) h2.size) (fun k hk => by have := (hown1.lt k hk).1; omega)
    have bw3 : Below b w W3 := by rw [← hW3]; exact bw.setCell (Nat.le_refl b) _
    have kt : KeepT XT w (W3.setCell ⟨b, 3, none⟩ (.int .i64 (y - ((up4 R.2.size : Nat) + 16 + (up4 len : Nat))))) := by
      have k1 := (KeepT.of_below (T := XT) hb2).below (((Below.refl _ _).alloc (Nat.le_refl _) (Obj.cells #[Value.string R.2, Value.int .u8 R.1, Value.slice a len cap] 61)).drew)
      have k2 := k1.grown_own (World.ownsRow.drew (World.ownsRow.alloc o1.out _)) (Or.inr rfl) hgrow'
      have k3 : KeepT XT w W3 := by rw [← hW3]; exact k2.set (p := ⟨b, 1, none⟩) k0 (Or.inl rfl) _
      exact k3.set (p := ⟨b, 3, none⟩) m0 (Or.inl rfl) _
    refine ⟨rfl, ⟨v0, _, xs0, xs1 ++ [.string R.2, .int .u8 R.1, .slice a len cap], Go.Rd.heap_setCell_same (o := 3) m0 _, ?_, ?_, ?_⟩, bw3.setCell (Nat.le_refl b) _, kt⟩
    · rw [← hW3]
      refine ownsRow_setCell_below (ownsRow_setCell_below ((World.ownsRow.drew (World.ownsRow.alloc o0.out _)).kept hgrow' ?_) (Nat.lt_succ_self b) _) (Nat.lt_succ_self b) _
      cases h0 : v0.ownBlock with
      | none => exact .inl rfl
      | some k =>
        right
        rcases hne with h2 | h2
        · rw [h2]; simp
        · intro e; exact h2 (by rw [h0, ← e])
    · rw [← hW3]
      exact ownsRow_setCell_below (ownsRow_setCell_below hown' (Nat.lt_succ_self b) _) (Nat.lt_succ_self b) _
    · right
      intro e
      have e2 : some g = v0.ownBlock := by simpa [Value.ownBlock] using e
      rcases hloc with h | h
      · rcases hne with h2 | h2
        · rw [h] at h2; simp at h2
        · exact h2 (by rw [h, e2])
      · have := (o0.out.lt g e2.symm).2
        simp at h
        omega

set_option maxHeartbeats 1000000 in
theorem add_none (b n0 n1 : Nat) (x y : Int) (s : ByteArray) (a : Option Addr) (len cap : Nat) (w : World) (hs : s.size ≤ maxLen) (R : Int × ByteArray) (hR : Hid (pick s prefs = R)) (hr : R.2.size ≤ 2147483647) (hl : len ≤ 2147483647)
    (ty : TypeId) (fr : Nat × Nat) (hT : w.heap[0]? = some (.cells tab ty fr)) (hX : XState w b n0 n1 x y) (hno : x < (up4 R.2.size + 16 + up4 len : Nat)) (hno2 : y < (up4 R.2.size + 16 + up4 len : Nat)) :
    Calls Tryd.prog 20 #[.pointer (some ⟨b, 0, none⟩), .string s, .slice a len cap] w fun e w' => e = .returned (.bool false) ∧ Below w.heap.size w w' := by
  obtain ⟨i0, hi, hz0, hz1, hz2⟩ := info_parts Tryd.info61
  obtain ⟨v0, v1, xs0, xs1, hst, hown0, hown1, hne⟩ := hX
  have hbw := lt_of_heap hst
  go_enter Tryd.func20, Tryd.ntmps20
  go_wp2_with (go_at_call 21; refine (compress_any s _ hs ty fr hT R hR).mono ?_; rintro e w1 ⟨rfl, hb1⟩)
  have hst1 : w1.heap[b]? = some (.cells #[v0, v1, .int .i64 x, .int .i64 y] 55 (0, 0)) := (hb1.block b hbw).trans hst
  have hst2 := alloc_keeps hst1 (Obj.cells #[Value.string R.snd, Value.int IntKind.u8 R.fst, Value.slice a len cap] 61)
  have hx2 := alloc_new w1 (Obj.cells #[Value.string R.snd, Value.int IntKind.u8 R.fst, Value.slice a len cap] 61)
  generalize hW2 : w1.alloc (Obj.cells #[Value.string R.snd, Value.int IntKind.u8 R.fst, Value.slice a len cap] 61) = W2 at *
  generalize hB2 : w1.heap.size = B2 at *
  have HW2 := Lib.hid hW2
  have HB2 := Lib.hid hB2
  clear hW2 hB2
  have hb2 : Below w.heap.size w W2 := by rw [← HW2.out]; exact hb1.alloc hb1.size _
  have o0 := Lib.hid (own_below hown0 hb2)
  have o1 := Lib.hid (own_below hown1 hb2)
  have c0 : W2.cell? ⟨b, 0, none⟩ = some v0 := (cell_of hst2 0).trans rfl
  have c1 : W2.cell? ⟨b, 1, none⟩ = some v1 := (cell_of hst2 1).trans rfl
  have c3 : W2.cell? ⟨b, 3, none⟩ = some (.int .i64 y) := (cell_of hst2 3).trans rfl
  have c2 : W2.cell? ⟨b, 2, none⟩ = some (.int .i64 x) := (cell_of hst2 2).trans rfl
  have u4a := up4_le R.2.size
  have u4b := up4_le len
  have d0 : W2.cell? ⟨B2, 0, none⟩ = some (.string R.2) := (cell_of hx2 0).trans rfl
  have d1 : W2.cell? ⟨B2, 1, none⟩ = some (.int .u8 R.1) := (cell_of hx2 1).trans rfl
  have d2 : W2.cell? ⟨B2, 2, none⟩ = some (.slice a len cap) := (cell_of hx2 2).trans rfl
  go_wp2_with (first
    | (go_at_call 22; refine (entry_len B2 R.2 R.1 _ _ hx2 hr).mono ?_; rintro e w' ⟨rfl, rfl⟩)
    | (go_at_call 23; refine (value_len B2 _ R.1 a len cap _ hx2 hl).mono ?_; rintro e w' ⟨rfl, rfl⟩))
  go_ret
  exact ⟨rfl, hb2⟩
end Go.Proofs.YtjpahogldfmaeabDoor
