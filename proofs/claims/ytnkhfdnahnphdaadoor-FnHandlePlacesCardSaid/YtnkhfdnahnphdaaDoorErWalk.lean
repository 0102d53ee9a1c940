/- The laid errors, and the kinds of errors. -/
import Derived.Test.YtnkhfdnahnphdaaDoorSe
import Derived.Test.YtnkhfdnahnphdaaDoorOnWalk
import Derived.Test.YtnkhfdnahnphdaaDoorRows
import Derived.LaidEql
namespace Go.Proofs.YtnkhfdnahnphdaaDoor
open Go.ChangeShapes Go.WideShapes Go.ChangeAt Go.RowKit Go.Rd
open Go.Proofs.YtnkhfdnahnphdaaDoorW.PrintWords Go.Proofs.YtnkhfdnahnphdaaDoorW.PrintLast Go.Proofs.YtnkhfdnahnphdaaDoorW.PrintMore

/-- The eleven laid errors' variables hold pointers to different blocks, all below B. -/
structure Sents (B : Nat) (w : World) (ad : Nat → Addr) : Prop where
  cell : ∀ g, g < 11 → w.cell? ⟨g, 0, none⟩ = some (.iface 149 (.pointer (some (ad g))))
  blk : ∀ g, g < 11 → ∃ c t, w.heap[(ad g).block]? = some (.cells c t (0, 0))
  ne : ∀ g h, g < 11 → h < 11 → g ≠ h → ad g ≠ ad h
  low : ∀ g, g < 11 → g < B ∧ (ad g).block < B
theorem Sents.below {B : Nat} {w w' : World} {ad : Nat → Addr} (h : Sents B w ad) (hb : Below B w w') : Sents B w' ad :=
  ⟨fun g hg => (hb.cell (p := ⟨g, 0, none⟩) (h.low g hg).1).trans (h.cell g hg), fun g hg => by
    obtain ⟨c, t, hc⟩ := h.blk g hg
    exact ⟨c, t, (hb.block _ (h.low g hg).2).trans hc⟩, h.ne, h.low⟩
theorem Sents.mono {B B' : Nat} {w : World} {ad : Nat → Addr} (h : Sents B w ad) (hb : B ≤ B') : Sents B' w ad :=
  ⟨h.cell, h.blk, h.ne, fun g hg => ⟨Nat.lt_of_lt_of_le (h.low g hg).1 hb, Nat.lt_of_lt_of_le (h.low g hg).2 hb⟩⟩

theorem comp149 : (Tryd.prog.info? 149).map (·.comparable) = some true := by kernel_rfl
theorem size151 : (Tryd.prog.info? 151).map (fun i => decide (i.size ≠ 0)) = some true := by kernel_rfl
theorem err_eq (W : World) (a : Addr) : (binOp .eql 96 (.iface 149 (.pointer (some a))) (.iface 149 (.pointer (some a)))).run Tryd.prog W = .ok (.bool true) W := by
  obtain ⟨i, hi, hcmp⟩ := Option.map_eq_some_iff.1 comp149
  obtain ⟨j, hj, _⟩ := Option.map_eq_some_iff.1 size151
  exact run_eql_iface_ptr_same W a Tryd.underlying96 Tryd.underlying149 hi hcmp hj
theorem err_ne {W : World} {a b : Addr} (hne : a ≠ b) (ha : ∃ c t, W.heap[a.block]? = some (.cells c t (0, 0))) (hb : ∃ c t, W.heap[b.block]? = some (.cells c t (0, 0))) :
    (binOp .eql 96 (.iface 149 (.pointer (some a))) (.iface 149 (.pointer (some b)))).run Tryd.prog W = .ok (.bool false) W := by
  obtain ⟨i, hi, hcmp⟩ := Option.map_eq_some_iff.1 comp149
  obtain ⟨j, hj, hsz⟩ := Option.map_eq_some_iff.1 size151
  obtain ⟨ca, ta, ha⟩ := ha
  obtain ⟨cb, tb, hb⟩ := hb
  exact run_eql_iface_ptr_other W Tryd.underlying96 Tryd.underlying149 hi hcmp hj (by simpa using hsz) hne ha hb
theorem assert_err (W : World) (v : Value) : (Instr.typeAssert (.iface 149 v) 96 124 true).run Tryd.prog W = .ok (.tuple #[.pointer none, .bool false]) W := by kernel_rfl
theorem err_nil (W : World) (v : Value) : (binOp .eql 96 (.iface 149 v) .nilIface).run Tryd.prog W = .ok (.bool false) W := by kernel_rfl
theorem assert_path (W : World) (v : Value) : (Instr.typeAssert (.iface 124 v) 96 124 true).run Tryd.prog W = .ok (.tuple #[v, .bool true]) W := by kernel_rfl

set_option maxRecDepth 100000 in
set_option maxHeartbeats 2000000 in
theorem kind_range (B : Nat) (ad : Nat → Addr) (w : World) (hS : Sents B w ad) : Calls Tryd.prog 46 #[.iface 149 (.pointer (some (ad 3)))] w fun e w' => e = .returned (.int .i64 7) ∧ w = w' := by
  have c0 := hS.cell 0 (by decide)
  have c1 := hS.cell 1 (by decide)
  have c2 := hS.cell 2 (by decide)
  have c3 := hS.cell 3 (by decide)
  have c4 := hS.cell 4 (by decide)
  have c5 := hS.cell 5 (by decide)
  have c7 := hS.cell 7 (by decide)
  have n4 := err_ne (W := w) (hS.ne 3 4 (by decide) (by decide) (by decide)) (hS.blk 3 (by decide)) (hS.blk 4 (by decide))
  have n7 := err_ne (W := w) (hS.ne 3 7 (by decide) (by decide) (by decide)) (hS.blk 3 (by decide)) (hS.blk 7 (by decide))
  have n5 := err_ne (W := w) (hS.ne 3 5 (by decide) (by decide) (by decide)) (hS.blk 3 (by decide)) (hS.blk 5 (by decide))
  have n0 := err_ne (W := w) (hS.ne 3 0 (by decide) (by decide) (by decide)) (hS.blk 3 (by decide)) (hS.blk 0 (by decide))
  have n1 := err_ne (W := w) (hS.ne 3 1 (by decide) (by decide) (by decide)) (hS.blk 3 (by decide)) (hS.blk 1 (by decide))
  have n2 := err_ne (W := w) (hS.ne 3 2 (by decide) (by decide) (by decide)) (hS.blk 3 (by decide)) (hS.blk 2 (by decide))
  have n3 := err_eq w (ad 3)
  have a1 := assert_err w (.pointer (some (ad 3)))
  have a2 := err_nil w (.pointer (some (ad 3)))
  go_enter Tryd.func46, Tryd.ntmps46
  go_wp2
  go_ret
  exact ⟨rfl, rfl⟩

set_option maxRecDepth 100000 in
set_option maxHeartbeats 2000000 in
theorem kind_path (B : Nat) (ad : Nat → Addr) (w : World) (b : Nat) (op path : ByteArray) (ea : Addr) (fr : Nat × Nat) (hS : Sents B w ad) (hb : w.heap[b]? = some (.cells #[.string op, .string path, .iface 149 (.pointer (some ea))] 127 fr))
    (hea : ∃ c t, w.heap[ea.block]? = some (.cells c t (0, 0))) (hne : ∀ g, g < 11 → ea ≠ ad g) (hop : op = ⟨#[116, 114, 117, 110, 99, 97, 116, 101]⟩ ∨ op = ⟨#[119, 114, 105, 116, 101]⟩) :
    Calls Tryd.prog 46 #[.iface 124 (.pointer (some ⟨b, 0, none⟩))] w fun e w' => e = .returned (.int .i64 6) ∧ w = w' := by
  have c4 := hS.cell 4 (by decide)
  have c5 := hS.cell 5 (by decide)
  have c6 := hS.cell 6 (by decide)
  have c7 := hS.cell 7 (by decide)
  have n4 := err_ne (W := w) (hne 4 (by decide)) hea (hS.blk 4 (by decide))
  have n5 := err_ne (W := w) (hne 5 (by decide)) hea (hS.blk 5 (by decide))
  have n6 := err_ne (W := w) (hne 6 (by decide)) hea (hS.blk 6 (by decide))
  have n7 := err_ne (W := w) (hne 7 (by decide)) hea (hS.blk 7 (by decide))
  have a1 := assert_path w (.pointer (some ⟨b, 0, none⟩))
  have b0 := (cell_of hb 0).trans rfl
  have b2 := (cell_of hb 2).trans rfl
  clear hne
  rcases hop with rfl | rfl
  · go_enter Tryd.func46, Tryd.ntmps46
    go_wp2
    go_ret
    exact ⟨rfl, rfl⟩
  · go_enter Tryd.func46, Tryd.ntmps46
    go_wp2
    go_ret
    exact ⟨rfl, rfl⟩

/-- The laid errors' texts. -/
def errText (g : Nat) : List UInt8 := [[70, 105, 108, 101, 32, 105, 115, 32, 99, 108, 111, 115, 101, 100],
  [69, 79, 70],
  [117, 110, 101, 120, 112, 101, 99, 116, 101, 100, 32, 69, 79, 70],
  [111, 117, 116, 32, 111, 102, 32, 114, 97, 110, 103, 101],
  [102, 105, 108, 101, 32, 100, 111, 101, 115, 32, 110, 111, 116, 32, 101, 120, 105, 115, 116],
  [102, 105, 108, 101, 32, 97, 108, 114, 101, 97, 100, 121, 32, 101, 120, 105, 115, 116, 115],
  [110, 111, 116, 32, 97, 32, 100, 105, 114, 101, 99, 116, 111, 114, 121],
  [110, 111, 32, 115, 117, 99, 104, 32, 102, 105, 108, 101, 32, 111, 114, 32, 100, 105, 114, 101, 99, 116, 111, 114, 121],
  [111, 112, 101, 114, 97, 116, 105, 111, 110, 32, 110, 111, 116, 32, 112, 101, 114, 109, 105, 116, 116, 101, 100],
  [102, 105, 108, 101, 32, 100, 101, 115, 99, 114, 105, 112, 116, 111, 114, 32, 105, 110, 32, 98, 97, 100, 32, 115, 116, 97, 116, 101],
  [105, 110, 112, 117, 116, 47, 111, 117, 116, 112, 117, 116, 32, 101, 114, 114, 111, 114]].getD g []
theorem star_err : "*" ++ "errors.errorString" = "*errors.errorString" := by decide
theorem sent_types : SentTypes Tryd.prog 96 149 151 9 where
  hi := ⟨_, Tryd.underlying96⟩
  row := fun u h => typeName_ptr_named (nm := "errors.errorString") (by rw [star_err]; kernel_rfl) (by kernel_rfl) (by decide) u (by rw [star_err]; exact h)
  hp := Tryd.underlying149
  he := ⟨_, Tryd.underlying151, rfl, rfl⟩
  hs := Tryd.underlying9
  hc := by kernel_rfl
  hcs := by kernel_rfl
theorem err_texts : ∀ g, g < 11 → ∀ h, h < 11 → errText g = errText h → g = h := by decide
theorem sents_of {w : World} (hL : laidMet Tryd.prog Rows.fnTruncateCutsRow.laid w) : ∃ ad, Sents w.heap.size w ad := by
  have H : ∀ g, g < 11 → ∃ (a : Addr) (s : ByteArray), w.cell? ⟨g, 0, none⟩ = some (.iface 149 (.pointer (some a))) ∧ g < w.heap.size ∧ w.cell? a = some (.string s) ∧ s.data.toList = errText g ∧ ∃ c t, w.heap[a.block]? = some (.cells c t (0, 0)) := by
    intro g hg
    have hc : g = 0 ∨ g = 1 ∨ g = 2 ∨ g = 3 ∨ g = 4 ∨ g = 5 ∨ g = 6 ∨ g = 7 ∨ g = 8 ∨ g = 9 ∨ g = 10 := by omega
    rcases hc with rfl | rfl | rfl | rfl | rfl | rfl | rfl | rfl | rfl | rfl | rfl
    · exact sent_of_laid sent_types hL "pub-marram/pub/afero/mem.ErrFileClosed" [70, 105, 108, 101, 32, 105, 115, 32, 99, 108, 111, 115, 101, 100] 0 (by kernel_rfl) (by kernel_rfl) (.tail _ (.tail _ (.tail _ (.tail _ (.tail _ (.tail _ (.tail _ (.tail _ (.tail _ (.head _))))))))))
    · exact sent_of_laid sent_types hL "io.EOF" [69, 79, 70] 1 (by kernel_rfl) (by kernel_rfl) (.tail _ (.tail _ (.tail _ (.tail _ (.tail _ (.tail _ (.tail _ (.head _))))))))
    · exact sent_of_laid sent_types hL "io.ErrUnexpectedEOF" [117, 110, 101, 120, 112, 101, 99, 116, 101, 100, 32, 69, 79, 70] 2 (by kernel_rfl) (by kernel_rfl) (.tail _ (.tail _ (.tail _ (.tail _ (.tail _ (.tail _ (.tail _ (.tail _ (.head _)))))))))
    · exact sent_of_laid sent_types hL "pub-marram/pub/afero/mem.ErrOutOfRange" [111, 117, 116, 32, 111, 102, 32, 114, 97, 110, 103, 101] 3 (by kernel_rfl) (by kernel_rfl) (.tail _ (.tail _ (.tail _ (.tail _ (.tail _ (.tail _ (.tail _ (.tail _ (.tail _ (.tail _ (.head _)))))))))))
    · exact sent_of_laid sent_types hL "pub-marram/pub/afero/inner/os.ErrNotExist" [102, 105, 108, 101, 32, 100, 111, 101, 115, 32, 110, 111, 116, 32, 101, 120, 105, 115, 116] 4 (by kernel_rfl) (by kernel_rfl) (.tail _ (.head _))
    · exact sent_of_laid sent_types hL "pub-marram/pub/afero/inner/os.ErrExist" [102, 105, 108, 101, 32, 97, 108, 114, 101, 97, 100, 121, 32, 101, 120, 105, 115, 116, 115] 5 (by kernel_rfl) (by kernel_rfl) (.head _)
    · exact sent_of_laid sent_types hL "pub-marram/pub/afero/inner/os.ENOTDIR" [110, 111, 116, 32, 97, 32, 100, 105, 114, 101, 99, 116, 111, 114, 121] 6 (by kernel_rfl) (by kernel_rfl) (.tail _ (.tail _ (.tail _ (.head _))))
    · exact sent_of_laid sent_types hL "pub-marram/pub/afero/inner/os.ENOENT" [110, 111, 32, 115, 117, 99, 104, 32, 102, 105, 108, 101, 32, 111, 114, 32, 100, 105, 114, 101, 99, 116, 111, 114, 121] 7 (by kernel_rfl) (by kernel_rfl) (.tail _ (.tail _ (.head _)))
    · exact sent_of_laid sent_types hL "pub-marram/pub/afero/inner/os.EPERM" [111, 112, 101, 114, 97, 116, 105, 111, 110, 32, 110, 111, 116, 32, 112, 101, 114, 109, 105, 116, 116, 101, 100] 8 (by kernel_rfl) (by kernel_rfl) (.tail _ (.tail _ (.tail _ (.tail _ (.head _)))))
    · exact sent_of_laid sent_types hL "pub-marram/pub/afero/inner/os.EBADFD" [102, 105, 108, 101, 32, 100, 101, 115, 99, 114, 105, 112, 116, 111, 114, 32, 105, 110, 32, 98, 97, 100, 32, 115, 116, 97, 116, 101] 9 (by kernel_rfl) (by kernel_rfl) (.tail _ (.tail _ (.tail _ (.tail _ (.tail _ (.tail _ (.head _)))))))
    · exact sent_of_laid sent_types hL "pub-marram/pub/afero/inner/os.EIO" [105, 110, 112, 117, 116, 47, 111, 117, 116, 112, 117, 116, 32, 101, 114, 114, 111, 114] 10 (by kernel_rfl) (by kernel_rfl) (.tail _ (.tail _ (.tail _ (.tail _ (.tail _ (.head _))))))
  refine ⟨fun g => if h : g < 11 then Classical.choose (H g h) else ⟨0, 0, none⟩, fun g hg => ?_, fun g hg => ?_, fun g h hg hh hne he => ?_, fun g hg => ?_⟩
  · simp only [dif_pos hg]
    obtain ⟨s, h1, h2, h3, h4, h5⟩ := Classical.choose_spec (H g hg)
    exact h1
  · simp only [dif_pos hg]
    obtain ⟨s, h1, h2, h3, h4, h5⟩ := Classical.choose_spec (H g hg)
    exact h5
  · simp only [dif_pos hg, dif_pos hh] at he
    obtain ⟨s, _, _, h3, h4, _⟩ := Classical.choose_spec (H g hg)
    obtain ⟨s', _, _, h3', h4', _⟩ := Classical.choose_spec (H h hh)
    rw [he, h3'] at h3
    cases h3
    exact hne (err_texts g hg h hh (h4.symm.trans h4'))
  · simp only [dif_pos hg]
    obtain ⟨s, h1, h2, h3, h4, c, t, h5⟩ := Classical.choose_spec (H g hg)
    exact ⟨h2, lt_of_heap h5⟩
end Go.Proofs.YtnkhfdnahnphdaaDoor
