/- FnVhdFooter: the walks of put32, put64 and the footer's bytes. -/
import Derived.Test.YtjpahogldfmaeabAp
import Derived.Test.YtjpahogldfmaeabProg
import Derived.WalkKit
import Derived.RegionTactic
import Derived.WalkLawsBesides
import Derived.WalkSpells
import Derived.ProofKit
import Derived.Outline
import Derived.IntWalk
namespace Go.Proofs.Ytjpahogldfmaeab
open Go.RowKit Go.Rd
set_option linter.unusedVariables false
set_option linter.unusedSimpArgs false
open Go.Proofs.YtjpahogldfmaeabW.PrintWords Go.Proofs.YtjpahogldfmaeabW.PrintLast Go.Proofs.YtjpahogldfmaeabW.PrintMore

theorem infoU8 : (Try.prog.info? 5).map (fun i => (i.zero, i.size, i.bytes)) = some (some (.int .u8 0), 1, 1) := by kernel_rfl

theorem wrap_u64_bd (x : Int) : 0 ≤ IntKind.u64.wrap x ∧ IntKind.u64.wrap x < 18446744073709551616 := by
  have e : IntKind.u64.wrap x = x % 18446744073709551616 := by simp [IntKind.wrap, IntKind.bits, IntKind.signed]
  rw [e]
  omega
/-- A number's four bytes, the highest first. -/
def be32 (x : Int) : List Int := [x / 16777216, (x / 65536) % 256, (x / 256) % 256, x % 256]
def be64 (x : Int) : List Int := be32 ((x / 4294967296) % 4294967296) ++ be32 (x % 4294967296)
/-- A row of bytes of the call's own. -/
def Row (base : Nat) (w : World) (v : Value) (l : List Int) : Prop := w.ownsRow base 5 1 v l.length (l.map (Value.int .u8)) ∧ ∀ c ∈ l, 0 ≤ c ∧ c ≤ 255
theorem Row.slice {base : Nat} {w : World} {v : Value} {l : List Int} (h : Row base w v l) : ∃ A c, v = .slice A l.length c := own_slice h.1
theorem Row.below {base : Nat} {w w' : World} {v : Value} {l : List Int} (h : Row base w v l) (hb : Below w.heap.size w w') : Row base w' v l :=
  ⟨own_move h.1 (fun k hk => hb.block k (own_lt h.1 k hk)), h.2⟩
theorem grown_below {base : Nat} {w w' : World} {v : Value} {l : List Int} (h : Row base w v l) (hg : w.grownBy w' v.ownBlock) (hB : base ≤ w.heap.size) : Below base w w' :=
  ⟨hg.os, hg.tape, hg.output, hg.size, fun k hk => hg.block k (by omega) (fun e => by have := own_base h.1 k e.symm; omega)⟩
theorem Row.drew {base : Nat} {w : World} {v : Value} {l : List Int} (h : Row base w v l) : Row base w.drew v l := h
theorem be32_fits (x : Int) (h : 0 ≤ x ∧ x ≤ 4294967295) : ∀ c ∈ be32 x, 0 ≤ c ∧ c ≤ 255 := by
  intro c hc
  simp [be32] at hc
  omega
theorem be32_length (x : Int) : (be32 x).length = 4 := rfl
theorem be64_length (x : Int) : (be64 x).length = 8 := rfl
theorem row_append {base : Nat} {w' : World} {v' : Value} {l b : List Int} {n : Nat} (h : w'.ownsRow base 5 1 v' (l.length + n) (l.map (Value.int .u8) ++ b.map (Value.int .u8))) (hn : b.length = n) (hl : ∀ c ∈ l, 0 ≤ c ∧ c ≤ 255) (hb : ∀ c ∈ b, 0 ≤ c ∧ c ≤ 255) : Row base w' v' (l ++ b) := by
  refine ⟨?_, fun c hc => ?_⟩
  · rw [List.length_append, hn, List.map_append]
    exact h
  · rcases List.mem_append.1 hc with g | g
    · exact hl c g
    · exact hb c g

set_option maxRecDepth 100000 in
set_option maxHeartbeats 1000000 in
theorem put32_any (base : Nat) (v : Value) (l : List Int) (x : Int) (w : World) (h : Row base w v l) (hB : base ≤ w.heap.size) (hl : l.length ≤ 1000) (hx : 0 ≤ x ∧ x ≤ 4294967295) :
    Calls Try.prog 13 #[v, .int .u32 x] w fun e w' => ∃ v', e = .returned v' ∧ Row base w' v' (l ++ be32 x) ∧ Below base w w' := by
  have hf := be32_fits x hx
  obtain ⟨hx1, hx2⟩ := hx
  have HF := Lib.hid hf
  clear hf
  obtain ⟨A, c, rfl⟩ := h.slice
  go_enter Try.func13, Try.ntmps13
  go_wp2_with (at_builtin; refine append_src rfl (.tmp 5) (.tmp 17) 22 rfl base 5 _ (.int .u8 0) 1 1 Try.underlying22 rfl rfl rfl rfl rfl (by decide) _ l.length _ rfl (h.1.alloc _) (some ⟨w.heap.size, 0, none⟩) 4 4 ((be32 x).map (Value.int .u8)) rfl rfl (fun e => by cases e) (fun ad e => by cases e; exact cells_new w _ 5 w.heap.size rfl _ rfl) (by simp [be32, Value.oneCell']) (by unfold maxLen; omega) (by omega) (by simp; omega) ?_; intro v1 w1 ho1 hg1)
  go_ret
  exact ⟨_, rfl, row_append ho1 rfl h.2 HF.out, ((Below.refl _ _).alloc hB _).trans (grown_below (h.below ((Below.refl _ _).alloc (Nat.le_refl _) _)) hg1 (by simp; omega))⟩

set_option maxRecDepth 100000 in
set_option maxHeartbeats 1000000 in
theorem put64_any (base : Nat) (v : Value) (l : List Int) (x : Int) (w : World) (h : Row base w v l) (hB : base ≤ w.heap.size) (hl : l.length ≤ 900) (hx : 0 ≤ x ∧ x < 18446744073709551616) :
    Calls Try.prog 14 #[v, .int .u64 x] w fun e w' => ∃ v', e = .returned v' ∧ Row base w' v' (l ++ be64 x) ∧ Below base w w' := by
  have e1 : x / 4294967296 % 4294967296 = x / 4294967296 := by omega
  have hr1 : 0 ≤ x / 4294967296 ∧ x / 4294967296 ≤ 4294967295 := by omega
  have hr2 : 0 ≤ x % 4294967296 ∧ x % 4294967296 ≤ 4294967295 := by omega
  unfold be64
  rw [e1]
  obtain ⟨hx1, hx2⟩ := hx
  have HR1 := Lib.hid hr1
  have HR2 := Lib.hid hr2
  clear hr1 hr2 e1
  go_enter Try.func14, Try.ntmps14
  go_wp2_with fail
  refine (put32_any base v l _ _ h hB (by omega) HR1.out).mono ?_
  rintro e w1 ⟨v1, rfl, h1, hB1⟩
  go_wp2_with fail
  refine (put32_any base v1 _ _ _ h1 (by have := hB1.size; omega) (by simp [be32_length]; omega) HR2.out).mono ?_
  rintro e w2 ⟨v2, rfl, h2, hB2⟩
  go_wp2_with fail
  go_ret
  rw [List.append_assoc] at h2
  exact ⟨_, rfl, h2, hB1.trans hB2⟩

def u8s (l : List Int) : List Value := l.map (.int .u8)
/-- A footer's cells. -/
def footL (cookie : List Int) (size chk : Int) (uid : List Int) : List Value :=
  u8s cookie ++ ([.int .u32 2, .int .u32 65536, .int .i64 (-1), .int .u32 0] ++ (u8s [0, 0, 0, 0] ++ ([.int .u32 655360] ++ (u8s [0, 0, 0, 0] ++ ([.int .i64 size, .int .i64 size, .int .u32 0, .int .u32 2, .int .u32 chk] ++ (u8s uid ++ (u8s [0] ++ u8s (List.replicate 427 0))))))))
structure FootIs (w : World) (b : Nat) (cookie : List Int) (size chk : Int) (uid : List Int) : Prop where
  blk : w.heap[b]? = some (.cells (footL cookie size chk uid).toArray 39 (0, 0))
  lc : cookie.length = 8
  lu : uid.length = 16
  fc : ∀ c ∈ cookie, 0 ≤ c ∧ c ≤ 255
  fu : ∀ c ∈ uid, 0 ≤ c ∧ c ≤ 255
theorem FootIs.below {w w' : World} {b B : Nat} {cookie : List Int} {size chk : Int} {uid : List Int} (h : FootIs w b cookie size chk uid) (hb : Below B w w') (hB : b < B) : FootIs w' b cookie size chk uid :=
  ⟨(hb.block b hB).trans h.blk, h.lc, h.lu, h.fc, h.fu⟩
theorem seg_bytes {w : World} {b : Nat} {L pre post : List Value} {seg : List Int} (h : w.heap[b]? = some (.cells L.toArray 39 (0, 0))) (e : L = pre ++ (u8s seg ++ post)) (hf : ∀ c ∈ seg, 0 ≤ c ∧ c ≤ 255) (hl : seg.length ≤ 1000) (off : Nat) (ho : pre.length = off) :
    BytesIn w (some ⟨b, off, none⟩) seg.length seg.length seg := by
  subst e
  refine ⟨rfl, fun e => (by cases e), Nat.le_refl _, by unfold maxLen; omega, fun x hx j u hu => ?_, hf⟩
  cases hx
  rw [addr_add, cell_of h]
  simp only [List.getElem?_toArray]
  have hj : j < (u8s seg).length := (List.getElem?_eq_some_iff.1 hu).1
  rw [List.getElem?_append_right (by omega), List.getElem?_append_left (by omega), ← hu]
  congr 1
  omega
theorem FootIs.scalars {w : World} {b : Nat} {cookie : List Int} {size chk : Int} {uid : List Int} (h : FootIs w b cookie size chk uid) :
    w.cell? ⟨b, 8, none⟩ = some (.int .u32 2) ∧ w.cell? ⟨b, 9, none⟩ = some (.int .u32 65536) ∧ w.cell? ⟨b, 10, none⟩ = some (.int .i64 (-1)) ∧ w.cell? ⟨b, 11, none⟩ = some (.int .u32 0) ∧ w.cell? ⟨b, 16, none⟩ = some (.int .u32 655360) ∧
    w.cell? ⟨b, 21, none⟩ = some (.int .i64 size) ∧ w.cell? ⟨b, 22, none⟩ = some (.int .i64 size) ∧ w.cell? ⟨b, 23, none⟩ = some (.int .u32 0) ∧ w.cell? ⟨b, 24, none⟩ = some (.int .u32 2) ∧ w.cell? ⟨b, 25, none⟩ = some (.int .u32 chk) ∧ w.cell? ⟨b, 42, none⟩ = some (.int .u8 0) := by
  have hc := h.lc
  have hu := h.lu
  have hb := h.blk
  unfold footL at hb
  generalize u8s (List.replicate 427 0) = Z at hb
  refine ⟨?_, ?_, ?_, ?_, ?_, ?_, ?_, ?_, ?_, ?_, ?_⟩ <;> rw [cell_of hb] <;> simp [u8s, List.getElem?_append, hc, hu]

theorem bytes_one (W : World) : BytesIn (W.alloc (.cells #[.int .u8 0] 5)) (some ⟨W.heap.size, 0, none⟩) 1 1 [0] :=
  ⟨rfl, fun e => (by cases e), Nat.le_refl _, by decide, fun x hx j u hu => by cases hx; exact cells_new W #[.int .u8 0] 5 W.heap.size rfl [.int .u8 0] rfl j u hu, by decide⟩
theorem bytes_kept {base : Nat} {W w1 : World} {v : Value} {l : List Int} (h : Row base W v l) (hg : (W.alloc (.cells #[.int .u8 0] 5)).grownBy w1 v.ownBlock) : BytesIn w1 (some ⟨W.heap.size, 0, none⟩) 1 1 [0] :=
  ⟨rfl, fun e => (by cases e), Nat.le_refl _, by decide, fun x hx j u hu => by
    cases hx
    have h1 := (bytes_one W).cells _ rfl j u hu
    refine (World.cell?_of_block (hg.block _ (cell_lt h1) (fun e => ?_))).trans h1
    rw [Go.Rd.add_block] at e
    have := own_lt h.1 _ e.symm
    simp only at this
    omega, by decide⟩
theorem FootIs.segs {w : World} {b : Nat} {cookie : List Int} {size chk : Int} {uid : List Int} (h : FootIs w b cookie size chk uid) :
    BytesIn w (some ⟨b, 12, none⟩) 4 4 [0, 0, 0, 0] ∧ BytesIn w (some ⟨b, 17, none⟩) 4 4 [0, 0, 0, 0] ∧ BytesIn w (some ⟨b, 26, none⟩) 16 16 uid ∧ BytesIn w (some ⟨b, 43, none⟩) 427 427 (List.replicate 427 0) := by
  have hc := h.lc
  have hu := h.lu
  have hb := h.blk
  refine ⟨?_, ?_, ?_, ?_⟩
  · exact seg_bytes (seg := [0, 0, 0, 0]) (pre := u8s cookie ++ [.int .u32 2, .int .u32 65536, .int .i64 (-1), .int .u32 0]) hb (by simp only [footL, List.append_assoc]; rfl) (by decide) (by decide) 12 (by simp [u8s, hc])
  · exact seg_bytes (seg := [0, 0, 0, 0]) (pre := u8s cookie ++ ([.int .u32 2, .int .u32 65536, .int .i64 (-1), .int .u32 0] ++ (u8s [0, 0, 0, 0] ++ [.int .u32 655360]))) hb (by simp only [footL, List.append_assoc]; rfl) (by decide) (by decide) 17 (by simp [u8s, hc])
  · have := seg_bytes (seg := uid) (pre := u8s cookie ++ ([.int .u32 2, .int .u32 65536, .int .i64 (-1), .int .u32 0] ++ (u8s [0, 0, 0, 0] ++ ([.int .u32 655360] ++ (u8s [0, 0, 0, 0] ++ [.int .i64 size, .int .i64 size, .int .u32 0, .int .u32 2, .int .u32 chk]))))) hb (by simp only [footL, List.append_assoc]; rfl) h.fu (by omega) 26 (by simp [u8s, hc])
    rw [hu] at this
    exact this
  · have := seg_bytes (seg := List.replicate 427 0) (pre := u8s cookie ++ ([.int .u32 2, .int .u32 65536, .int .i64 (-1), .int .u32 0] ++ (u8s [0, 0, 0, 0] ++ ([.int .u32 655360] ++ (u8s [0, 0, 0, 0] ++ ([.int .i64 size, .int .i64 size, .int .u32 0, .int .u32 2, .int .u32 chk] ++ (u8s uid ++ u8s [0]))))))) (post := []) hb (by simp only [footL, List.append_assoc, List.append_nil]) (fun c hc => by rw [(List.mem_replicate.1 hc).2]; decide) (by rw [List.length_replicate]; decide) 43 (by simp [u8s, hc, hu])
    rw [List.length_replicate] at this
    exact this
def m64 : Int := 18446744073709551615
/-- A footer's bytes. -/
def footB (cookie : List Int) (size64 chk : Int) (uid : List Int) : List Int := (((((((((((((((cookie ++ be32 2) ++ be32 65536) ++ be64 m64) ++ be32 0) ++ [0, 0, 0, 0]) ++ be32 655360) ++ [0, 0, 0, 0]) ++ be64 size64) ++ be64 size64) ++ be32 0) ++ be32 2) ++ be32 chk) ++ uid) ++ [0]) ++ List.replicate 427 0)

/-- So far. -/
def Sofar (w : World) (l : List Int) (v : Value) (wx : World) : Prop := Row w.heap.size wx v l ∧ Below w.heap.size w wx

set_option maxRecDepth 100000 in
set_option maxHeartbeats 4000000 in
theorem bytes_any (b : Nat) (cookie : List Int) (size chk : Int) (uid : List Int) (w : World) (hF : FootIs w b cookie size chk uid) (hs : -9223372036854775808 ≤ size ∧ size ≤ 9223372036854775807) (hk : 0 ≤ chk ∧ chk ≤ 4294967295) :
    Calls Try.prog 11 #[.pointer (some ⟨b, 0, none⟩)] w fun e w' => ∃ v, e = .returned v ∧ Row w.heap.size w' v (footB cookie (IntKind.u64.wrap size) chk uid) ∧ Below w.heap.size w w' := by
  have hbl : b < w.heap.size := lt_of_heap hF.blk
  have hB0 := seg_bytes (seg := cookie) (pre := []) hF.blk rfl hF.fc (by have := hF.lc; omega) 0 rfl
  rw [hF.lc] at hB0
  have hcl : cookie.length ≤ 8 := by have := hF.lc; omega
  have hul : uid.length ≤ 16 := by have := hF.lu; omega
  have hz := wrap_u64_bd size
  obtain ⟨hm1, hm2⟩ : 0 ≤ m64 ∧ m64 < 18446744073709551616 := by decide
  obtain ⟨z, hzz⟩ : ∃ z, IntKind.u64.wrap size = z := ⟨_, rfl⟩
  rw [hzz] at hz ⊢
  have HZ := Lib.hid hzz
  obtain ⟨hz1, hz2⟩ := hz
  clear hzz
  obtain ⟨hk1, hk2⟩ := hk
  have HFF := Lib.hid hF
  clear hF
  go_enter Try.func11, Try.ntmps11
  go_wp2_with (at_builtin; refine append_src rfl (.const (.slice none 0 0)) (.tmp 7) 22 rfl w.heap.size 5 _ (.int .u8 0) 1 1 Try.underlying22 rfl rfl rfl rfl rfl (by decide) _ 0 [] rfl (World.ownsRow_nil _ _ _ _) (some ⟨b, 0, none⟩) 8 8 (cookie.map (Value.int .u8)) rfl (hB0.src).1 hB0.nil hB0.cells (hB0.src).2.2.2 (by unfold maxLen; omega) (by omega) (Nat.le_refl _) ?_; intro v1 w1 ho1 hg1)
  rw [Nat.zero_add, List.nil_append] at ho1
  have hS : Sofar w cookie v1 w1 := ⟨⟨by rw [HFF.out.lc]; exact ho1, HFF.out.fc⟩, ⟨hg1.os, hg1.tape, hg1.output, hg1.size, fun k hk => hg1.block k hk (fun e => by cases e)⟩⟩
  clear ho1 hg1 hB0
  obtain ⟨hR0, hL0⟩ := hS
  obtain ⟨s8, s9, s10, s11, s16, s21, s22, s23, s24, s25, s42⟩ := (HFF.out.below hL0 hbl).scalars
  have hZ0 := hL0.size
  have hn0 : (cookie).length ≤ 900 := by (try simp only [List.length_append, be32_length, be64_length, List.length_cons, List.length_nil]); omega
  have hn1 : ((cookie ++ be32 2)).length ≤ 900 := by (try simp only [List.length_append, be32_length, be64_length, List.length_cons, List.length_nil]); omega
  go_upto_region 2 with fail
  go_cut [3] (fun v wx => Sofar w ((cookie ++ be32 2) ++ be32 65536) v wx)
  case first =>
    go_region_law (first
      | (go_simp; go_at_call 13; refine (put32_any w.heap.size v11 (cookie ++ be32 2) _ _ h11 hZ11 (Nat.le_trans hn1 (by decide)) (by omega)).mono ?_; rintro e w12 ⟨v12, rfl, h12, hB12'⟩; have hB12 := hB11.trans hB12'; have hZ12 : w.heap.size ≤ w12.heap.size := hB12.size; obtain ⟨s8, s9, s10, s11, s16, s21, s22, s23, s24, s25, s42⟩ := (HFF.out.below hB12 hbl).scalars)
      | (go_simp; go_at_call 13; refine (put32_any w.heap.size v1 cookie _ _ hR0.drew hZ0 (Nat.le_trans hn0 (by decide)) (by omega)).mono ?_; rintro e w11 ⟨v11, rfl, h11, hB11'⟩; have hB11 := hL0.drew.trans hB11'; have hZ11 : w.heap.size ≤ w11.heap.size := hB11.size; obtain ⟨s8, s9, s10, s11, s16, s21, s22, s23, s24, s25, s42⟩ := (HFF.out.below hB11 hbl).scalars))
    all_goals
      go_wp2_with fail
      go_meet
      exact ⟨h12, hB12⟩
  case rest =>
    have hS := hcut
    clear hn0 hn1
    clear hcut s8 s9 s10 s11 s16 s21 s22 s23 s24 s25 s42 hR0 hL0 hZ0
    obtain ⟨hR0, hL0⟩ := hS
    obtain ⟨s8, s9, s10, s11, s16, s21, s22, s23, s24, s25, s42⟩ := (HFF.out.below hL0 hbl).scalars
    have hZ0 := hL0.size
    have hn0 : (((cookie ++ be32 2) ++ be32 65536)).length ≤ 900 := by (try simp only [List.length_append, be32_length, be64_length, List.length_cons, List.length_nil]); omega
    have hn1 : ((((cookie ++ be32 2) ++ be32 65536) ++ be64 m64)).length ≤ 900 := by (try simp only [List.length_append, be32_length, be64_length, List.length_cons, List.length_nil]); omega
    go_upto_region 3 with fail
    have q1 : IntKind.u64.wrap (-1) = m64 := by decide
    have q2 := HZ.out
    go_cut [3] (fun v wx => Sofar w ((((cookie ++ be32 2) ++ be32 65536) ++ be64 m64) ++ be32 0) v wx)
    case first =>
      go_region_law (first
        | (go_simp; go_at_call 13; refine (put32_any w.heap.size v11 (((cookie ++ be32 2) ++ be32 65536) ++ be64 m64) _ _ h11 hZ11 (Nat.le_trans hn1 (by decide)) (by omega)).mono ?_; rintro e w12 ⟨v12, rfl, h12, hB12'⟩; have hB12 := hB11.trans hB12'; have hZ12 : w.heap.size ≤ w12.heap.size := hB12.size; obtain ⟨s8, s9, s10, s11, s16, s21, s22, s23, s24, s25, s42⟩ := (HFF.out.below hB12 hbl).scalars)
        | (go_simp; go_at_call 14; refine (put64_any w.heap.size u3 ((cookie ++ be32 2) ++ be32 65536) _ _ hR0.drew hZ0 (Nat.le_trans hn0 (by decide)) (by omega)).mono ?_; rintro e w11 ⟨v11, rfl, h11, hB11'⟩; have hB11 := hL0.drew.trans hB11'; have hZ11 : w.heap.size ≤ w11.heap.size := hB11.size; obtain ⟨s8, s9, s10, s11, s16, s21, s22, s23, s24, s25, s42⟩ := (HFF.out.below hB11 hbl).scalars))
      all_goals
        go_wp2_with fail
        go_meet
        exact ⟨h12, hB12⟩
    case rest =>
      have hS := hcut
      clear q1 q2
      clear hn0 hn1
      clear hcut s8 s9 s10 s11 s16 s21 s22 s23 s24 s25 s42 hR0 hL0 hZ0
      obtain ⟨hR0, hL0⟩ := hS
      obtain ⟨s8, s9, s10, s11, s16, s21, s22, s23, s24, s25, s42⟩ := (HFF.out.below hL0 hbl).scalars
      obtain ⟨g12, g17, g26, g43⟩ := (HFF.out.below hL0 hbl).segs
      have hZ0 := hL0.size
      have hn0 : (((((cookie ++ be32 2) ++ be32 65536) ++ be64 m64) ++ be32 0)).length ≤ 900 := by (try simp only [List.length_append, be32_length, be64_length, List.length_cons, List.length_nil]); omega
      have hn1 : ((((((cookie ++ be32 2) ++ be32 65536) ++ be64 m64) ++ be32 0) ++ [0, 0, 0, 0])).length ≤ 900 := by (try simp only [List.length_append, be32_length, be64_length, List.length_cons, List.length_nil]); omega
      have hRUN := run_src (P := Try.prog) (w := wc.drew) 22 22 5 w.heap.size Try.underlying22 infoU8 u3 _ _ hR0.drew.1 (some ⟨b, 12, none⟩) 4 4 [0, 0, 0, 0] (g12.below ((Below.refl _ _).drew)) (by omega) hZ0
      have HRUN := Lib.hid hRUN
      clear hRUN
      go_upto_region 4 with fail
      go_cut [3] (fun v wx => Sofar w ((((((cookie ++ be32 2) ++ be32 65536) ++ be64 m64) ++ be32 0) ++ [0, 0, 0, 0]) ++ be32 655360) v wx)
      case first =>
        go_region_law (first
          | (go_simp; go_at_call 13; refine (put32_any w.heap.size v11 (((((cookie ++ be32 2) ++ be32 65536) ++ be64 m64) ++ be32 0) ++ [0, 0, 0, 0]) _ _ h11 hZ11 (Nat.le_trans hn1 (by decide)) (by omega)).mono ?_; rintro e w12 ⟨v12, rfl, h12, hB12'⟩; have hB12 := hB11.trans hB12'; obtain ⟨s8, s9, s10, s11, s16, s21, s22, s23, s24, s25, s42⟩ := (HFF.out.below hB12 hbl).scalars)
          | (refine step_append_run rfl (.tmp 32) (.tmp 36) 22 rfl u3 (.slice (some ⟨b, 12, none⟩) 4 4) (by simp [Act.eval, Act.put]) (by simp [Act.eval, Act.put]) _ HRUN.out ?_; rintro v11 w11 ⟨ho11, hg11, _⟩; have h11 : Row w.heap.size w11 v11 (((((cookie ++ be32 2) ++ be32 65536) ++ be64 m64) ++ be32 0) ++ [0, 0, 0, 0]) := row_append ho11 rfl hR0.2 (by decide); have hB11 := hL0.drew.trans (grown_below hR0.drew hg11 hZ0); have hZ11 : w.heap.size ≤ w11.heap.size := hB11.size; obtain ⟨s8, s9, s10, s11, s16, s21, s22, s23, s24, s25, s42⟩ := (HFF.out.below hB11 hbl).scalars))
        all_goals
          go_wp2_with fail
          go_meet
          exact ⟨h12, hB12⟩
      case rest =>
        have hS := hcut
        clear hn0 hn1
        clear hcut s8 s9 s10 s11 s16 s21 s22 s23 s24 s25 s42 g12 g17 g26 g43 hR0 hL0 hZ0
        obtain ⟨hR0, hL0⟩ := hS
        obtain ⟨s8, s9, s10, s11, s16, s21, s22, s23, s24, s25, s42⟩ := (HFF.out.below hL0 hbl).scalars
        obtain ⟨g12, g17, g26, g43⟩ := (HFF.out.below hL0 hbl).segs
        have hZ0 := hL0.size
        have hn0 : (((((((cookie ++ be32 2) ++ be32 65536) ++ be64 m64) ++ be32 0) ++ [0, 0, 0, 0]) ++ be32 655360)).length ≤ 900 := by (try simp only [List.length_append, be32_length, be64_length, List.length_cons, List.length_nil]); omega
        go_upto_region 5 with fail
        go_cut [3] (fun v wx => Sofar w (((((((cookie ++ be32 2) ++ be32 65536) ++ be64 m64) ++ be32 0) ++ [0, 0, 0, 0]) ++ be32 655360) ++ [0, 0, 0, 0]) v wx)
        case first =>
          go_wp2_with (at_builtin; refine append_src rfl (.tmp 43) (.tmp 47) 22 rfl w.heap.size 5 _ (.int .u8 0) 1 1 Try.underlying22 rfl rfl rfl rfl rfl (by decide) u3 _ _ rfl hR0.1 (some ⟨b, 17, none⟩) 4 4 _ rfl (g17.src).1 g17.nil g17.cells (g17.src).2.2.2 (by unfold maxLen; omega) (by omega) hZ0 ?_; intro v11 w11 ho11 hg11)
          go_meet
          exact ⟨row_append ho11 rfl hR0.2 (by decide), hL0.trans (grown_below hR0 hg11 hZ0)⟩
        case rest =>
          have hS := hcut
          clear hn0
          clear hcut s8 s9 s10 s11 s16 s21 s22 s23 s24 s25 s42 g12 g17 g26 g43 hR0 hL0 hZ0
          obtain ⟨hR0, hL0⟩ := hS
          obtain ⟨s8, s9, s10, s11, s16, s21, s22, s23, s24, s25, s42⟩ := (HFF.out.below hL0 hbl).scalars
          have hZ0 := hL0.size
          have hn0 : ((((((((cookie ++ be32 2) ++ be32 65536) ++ be64 m64) ++ be32 0) ++ [0, 0, 0, 0]) ++ be32 655360) ++ [0, 0, 0, 0])).length ≤ 900 := by (try simp only [List.length_append, be32_length, be64_length, List.length_cons, List.length_nil]); omega
          have hn1 : (((((((((cookie ++ be32 2) ++ be32 65536) ++ be64 m64) ++ be32 0) ++ [0, 0, 0, 0]) ++ be32 655360) ++ [0, 0, 0, 0]) ++ be64 z)).length ≤ 900 := by (try simp only [List.length_append, be32_length, be64_length, List.length_cons, List.length_nil]); omega
          go_upto_region 6 with fail
          have q1 : IntKind.u64.wrap (-1) = m64 := by decide
          have q2 := HZ.out
          go_cut [3] (fun v wx => Sofar w (((((((((cookie ++ be32 2) ++ be32 65536) ++ be64 m64) ++ be32 0) ++ [0, 0, 0, 0]) ++ be32 655360) ++ [0, 0, 0, 0]) ++ be64 z) ++ be64 z) v wx)
          case first =>
            go_region_law (first
              | (go_simp; go_at_call 14; refine (put64_any w.heap.size v11 ((((((((cookie ++ be32 2) ++ be32 65536) ++ be64 m64) ++ be32 0) ++ [0, 0, 0, 0]) ++ be32 655360) ++ [0, 0, 0, 0]) ++ be64 z) _ _ h11 hZ11 (Nat.le_trans hn1 (by decide)) (by omega)).mono ?_; rintro e w12 ⟨v12, rfl, h12, hB12'⟩; have hB12 := hB11.trans hB12'; have hZ12 : w.heap.size ≤ w12.heap.size := hB12.size; obtain ⟨s8, s9, s10, s11, s16, s21, s22, s23, s24, s25, s42⟩ := (HFF.out.below hB12 hbl).scalars)
              | (go_simp; go_at_call 14; refine (put64_any w.heap.size u3 (((((((cookie ++ be32 2) ++ be32 65536) ++ be64 m64) ++ be32 0) ++ [0, 0, 0, 0]) ++ be32 655360) ++ [0, 0, 0, 0]) _ _ hR0.drew hZ0 (Nat.le_trans hn0 (by decide)) (by omega)).mono ?_; rintro e w11 ⟨v11, rfl, h11, hB11'⟩; have hB11 := hL0.drew.trans hB11'; have hZ11 : w.heap.size ≤ w11.heap.size := hB11.size; obtain ⟨s8, s9, s10, s11, s16, s21, s22, s23, s24, s25, s42⟩ := (HFF.out.below hB11 hbl).scalars))
            all_goals
              go_wp2_with fail
              go_meet
              exact ⟨h12, hB12⟩
          case rest =>
            have hS := hcut
            clear q1 q2
            clear hn0 hn1
            clear hcut s8 s9 s10 s11 s16 s21 s22 s23 s24 s25 s42 hR0 hL0 hZ0
            obtain ⟨hR0, hL0⟩ := hS
            obtain ⟨s8, s9, s10, s11, s16, s21, s22, s23, s24, s25, s42⟩ := (HFF.out.below hL0 hbl).scalars
            have hZ0 := hL0.size
            have hn0 : ((((((((((cookie ++ be32 2) ++ be32 65536) ++ be64 m64) ++ be32 0) ++ [0, 0, 0, 0]) ++ be32 655360) ++ [0, 0, 0, 0]) ++ be64 z) ++ be64 z)).length ≤ 900 := by (try simp only [List.length_append, be32_length, be64_length, List.length_cons, List.length_nil]); omega
            have hn1 : (((((((((((cookie ++ be32 2) ++ be32 65536) ++ be64 m64) ++ be32 0) ++ [0, 0, 0, 0]) ++ be32 655360) ++ [0, 0, 0, 0]) ++ be64 z) ++ be64 z) ++ be32 0)).length ≤ 900 := by (try simp only [List.length_append, be32_length, be64_length, List.length_cons, List.length_nil]); omega
            have hn2 : ((((((((((((cookie ++ be32 2) ++ be32 65536) ++ be64 m64) ++ be32 0) ++ [0, 0, 0, 0]) ++ be32 655360) ++ [0, 0, 0, 0]) ++ be64 z) ++ be64 z) ++ be32 0) ++ be32 2)).length ≤ 900 := by (try simp only [List.length_append, be32_length, be64_length, List.length_cons, List.length_nil]); omega
            go_upto_region 7 with fail
            go_cut [3] (fun v wx => Sofar w ((((((((((((cookie ++ be32 2) ++ be32 65536) ++ be64 m64) ++ be32 0) ++ [0, 0, 0, 0]) ++ be32 655360) ++ [0, 0, 0, 0]) ++ be64 z) ++ be64 z) ++ be32 0) ++ be32 2) ++ be32 chk) v wx)
            case first =>
              go_region_law (first
                | (go_simp; go_at_call 13; refine (put32_any w.heap.size v12 (((((((((((cookie ++ be32 2) ++ be32 65536) ++ be64 m64) ++ be32 0) ++ [0, 0, 0, 0]) ++ be32 655360) ++ [0, 0, 0, 0]) ++ be64 z) ++ be64 z) ++ be32 0) ++ be32 2) _ _ h12 hZ12 (Nat.le_trans hn2 (by decide)) (by omega)).mono ?_; rintro e w13 ⟨v13, rfl, h13, hB13'⟩; have hB13 := hB12.trans hB13'; have hZ13 : w.heap.size ≤ w13.heap.size := hB13.size; obtain ⟨s8, s9, s10, s11, s16, s21, s22, s23, s24, s25, s42⟩ := (HFF.out.below hB13 hbl).scalars)
                | (go_simp; go_at_call 13; refine (put32_any w.heap.size v11 ((((((((((cookie ++ be32 2) ++ be32 65536) ++ be64 m64) ++ be32 0) ++ [0, 0, 0, 0]) ++ be32 655360) ++ [0, 0, 0, 0]) ++ be64 z) ++ be64 z) ++ be32 0) _ _ h11 hZ11 (Nat.le_trans hn1 (by decide)) (by omega)).mono ?_; rintro e w12 ⟨v12, rfl, h12, hB12'⟩; have hB12 := hB11.trans hB12'; have hZ12 : w.heap.size ≤ w12.heap.size := hB12.size; obtain ⟨s8, s9, s10, s11, s16, s21, s22, s23, s24, s25, s42⟩ := (HFF.out.below hB12 hbl).scalars)
                | (go_simp; go_at_call 13; refine (put32_any w.heap.size u3 (((((((((cookie ++ be32 2) ++ be32 65536) ++ be64 m64) ++ be32 0) ++ [0, 0, 0, 0]) ++ be32 655360) ++ [0, 0, 0, 0]) ++ be64 z) ++ be64 z) _ _ hR0.drew hZ0 (Nat.le_trans hn0 (by decide)) (by omega)).mono ?_; rintro e w11 ⟨v11, rfl, h11, hB11'⟩; have hB11 := hL0.drew.trans hB11'; have hZ11 : w.heap.size ≤ w11.heap.size := hB11.size; obtain ⟨s8, s9, s10, s11, s16, s21, s22, s23, s24, s25, s42⟩ := (HFF.out.below hB11 hbl).scalars))
              all_goals
                go_wp2_with fail
                go_meet
                exact ⟨h13, hB13⟩
            case rest =>
              have hS := hcut
              clear hn0 hn1 hn2
              clear hcut s8 s9 s10 s11 s16 s21 s22 s23 s24 s25 s42 hR0 hL0 hZ0
              obtain ⟨hR0, hL0⟩ := hS
              obtain ⟨s8, s9, s10, s11, s16, s21, s22, s23, s24, s25, s42⟩ := (HFF.out.below hL0 hbl).scalars
              obtain ⟨g12, g17, g26, g43⟩ := (HFF.out.below hL0 hbl).segs
              have hZ0 := hL0.size
              have hn0 : (((((((((((((cookie ++ be32 2) ++ be32 65536) ++ be64 m64) ++ be32 0) ++ [0, 0, 0, 0]) ++ be32 655360) ++ [0, 0, 0, 0]) ++ be64 z) ++ be64 z) ++ be32 0) ++ be32 2) ++ be32 chk)).length ≤ 900 := by (try simp only [List.length_append, be32_length, be64_length, List.length_cons, List.length_nil]); omega
              have hn1 : ((((((((((((((cookie ++ be32 2) ++ be32 65536) ++ be64 m64) ++ be32 0) ++ [0, 0, 0, 0]) ++ be32 655360) ++ [0, 0, 0, 0]) ++ be64 z) ++ be64 z) ++ be32 0) ++ be32 2) ++ be32 chk) ++ uid)).length ≤ 900 := by (try simp only [List.length_append, be32_length, be64_length, List.length_cons, List.length_nil]); omega
              have hRUN := run_src (P := Try.prog) (w := wc.drew) 22 22 5 w.heap.size Try.underlying22 infoU8 u3 _ _ hR0.drew.1 (some ⟨b, 26, none⟩) 16 16 uid (g26.below ((Below.refl _ _).drew)) (by omega) hZ0
              have HRUN := Lib.hid hRUN
              clear hRUN
              have hRUN := run_src (P := Try.prog) (w := wc.drew.alloc (.cells #[.int .u8 0] 5)) 22 22 5 w.heap.size Try.underlying22 infoU8 u3 _ _ (hR0.drew.below ((Below.refl _ _).alloc (Nat.le_refl _) _)).1 (some ⟨b, 26, none⟩) 16 16 uid (g26.below ((Below.refl _ _).drew.alloc (Nat.le_refl _) _)) (by omega) (by simp; omega)
              have HRUN2 := Lib.hid hRUN
              clear hRUN
              have huid := HFF.out.fu
              have HUID := Lib.hid huid
              clear huid
              have hlu := HFF.out.lu
              have HLU := Lib.hid hlu
              clear hlu
              go_upto_region 8 with fail
              go_cut [3] (fun v wx => Sofar w ((((((((((((((cookie ++ be32 2) ++ be32 65536) ++ be64 m64) ++ be32 0) ++ [0, 0, 0, 0]) ++ be32 655360) ++ [0, 0, 0, 0]) ++ be64 z) ++ be64 z) ++ be32 0) ++ be32 2) ++ be32 chk) ++ uid) ++ [0]) v wx)
              case first =>
                go_region_law (first
                  | (refine step_append_run rfl (.tmp 83) (.tmp 88) 22 rfl v11 (.slice (some ⟨w11.heap.size, 0, none⟩) 1 1) (by simp [Act.eval, Act.put]) (by simp [Act.eval, Act.put]) _ (run_src (P := Try.prog) (w := w11.alloc (.cells #[.int .u8 0] 5)) 22 22 5 w.heap.size Try.underlying22 infoU8 v11 _ _ (h11.below ((Below.refl _ _).alloc (Nat.le_refl _) _)).1 (some ⟨w11.heap.size, 0, none⟩) 1 1 [0] (bytes_one w11) (by omega) (by simp; omega)) ?_; rintro v12 w12 ⟨ho12, hg12, _⟩; have h12 : Row w.heap.size w12 v12 ((((((((((((((cookie ++ be32 2) ++ be32 65536) ++ be64 m64) ++ be32 0) ++ [0, 0, 0, 0]) ++ be32 655360) ++ [0, 0, 0, 0]) ++ be64 z) ++ be64 z) ++ be32 0) ++ be32 2) ++ be32 chk) ++ uid) ++ [0]) := row_append ho12 rfl h11.2 (by decide); have hB12 := (hB11.alloc hZ11 _).trans (grown_below (h11.below ((Below.refl _ _).alloc (Nat.le_refl _) _)) hg12 (by simp; omega)))
                  | (refine step_append_run rfl (.tmp 83) (.tmp 88) 22 rfl v11 (.slice (some ⟨wc.heap.size, 0, none⟩) 1 1) (by simp [Act.eval, Act.put]) (by simp [Act.eval, Act.put]) _ (run_src (P := Try.prog) (w := w11) 22 22 5 w.heap.size Try.underlying22 infoU8 v11 _ _ h11.1 (some ⟨wc.heap.size, 0, none⟩) 1 1 [0] hbx (by omega) hZ11) ?_; rintro v12 w12 ⟨ho12, hg12, _⟩; have h12 : Row w.heap.size w12 v12 ((((((((((((((cookie ++ be32 2) ++ be32 65536) ++ be64 m64) ++ be32 0) ++ [0, 0, 0, 0]) ++ be32 655360) ++ [0, 0, 0, 0]) ++ be64 z) ++ be64 z) ++ be32 0) ++ be32 2) ++ be32 chk) ++ uid) ++ [0]) := row_append ho12 rfl h11.2 (by decide); have hB12 := hB11.trans (grown_below h11 hg12 hZ11))
                  | (refine step_append_run rfl (.tmp 78) (.tmp 82) 22 rfl u3 (.slice (some ⟨b, 26, none⟩) 16 16) (by simp [Act.eval, Act.put]) (by simp [Act.eval, Act.put]) _ HRUN.out ?_; rintro v11 w11 ⟨ho11, hg11, _⟩; have h11 : Row w.heap.size w11 v11 (((((((((((((cookie ++ be32 2) ++ be32 65536) ++ be64 m64) ++ be32 0) ++ [0, 0, 0, 0]) ++ be32 655360) ++ [0, 0, 0, 0]) ++ be64 z) ++ be64 z) ++ be32 0) ++ be32 2) ++ be32 chk) ++ uid) := row_append ho11 HLU.out hR0.2 HUID.out; have hB11 := hL0.drew.trans (grown_below hR0.drew hg11 hZ0); have hZ11 : w.heap.size ≤ w11.heap.size := hB11.size; obtain ⟨s8, s9, s10, s11, s16, s21, s22, s23, s24, s25, s42⟩ := (HFF.out.below hB11 hbl).scalars)
                  | (refine step_append_run rfl (.tmp 78) (.tmp 82) 22 rfl u3 (.slice (some ⟨b, 26, none⟩) 16 16) (by simp [Act.eval, Act.put]) (by simp [Act.eval, Act.put]) _ HRUN2.out ?_; rintro v11 w11 ⟨ho11, hg11, _⟩; have h11 : Row w.heap.size w11 v11 (((((((((((((cookie ++ be32 2) ++ be32 65536) ++ be64 m64) ++ be32 0) ++ [0, 0, 0, 0]) ++ be32 655360) ++ [0, 0, 0, 0]) ++ be64 z) ++ be64 z) ++ be32 0) ++ be32 2) ++ be32 chk) ++ uid) := row_append ho11 HLU.out hR0.2 HUID.out; have hB11 := (hL0.drew.alloc hZ0 _).trans (grown_below (hR0.drew.below ((Below.refl _ _).alloc (Nat.le_refl _) _)) hg11 (by simp; omega)); have hZ11 : w.heap.size ≤ w11.heap.size := hB11.size; obtain ⟨s8, s9, s10, s11, s16, s21, s22, s23, s24, s25, s42⟩ := (HFF.out.below hB11 hbl).scalars; have hbx := bytes_kept hR0.drew hg11))
                all_goals
                  go_wp2_with fail
                  go_meet
                  exact ⟨h12, hB12⟩
              case rest =>
                have hS := hcut
                clear hn0 hn1
                clear hcut s8 s9 s10 s11 s16 s21 s22 s23 s24 s25 s42 g12 g17 g26 g43 hR0 hL0 hZ0
                obtain ⟨hR0, hL0⟩ := hS
                obtain ⟨s8, s9, s10, s11, s16, s21, s22, s23, s24, s25, s42⟩ := (HFF.out.below hL0 hbl).scalars
                obtain ⟨g12, g17, g26, g43⟩ := (HFF.out.below hL0 hbl).segs
                have hZ0 := hL0.size
                have hn0 : (((((((((((((((cookie ++ be32 2) ++ be32 65536) ++ be64 m64) ++ be32 0) ++ [0, 0, 0, 0]) ++ be32 655360) ++ [0, 0, 0, 0]) ++ be64 z) ++ be64 z) ++ be32 0) ++ be32 2) ++ be32 chk) ++ uid) ++ [0])).length ≤ 900 := by (try simp only [List.length_append, be32_length, be64_length, List.length_cons, List.length_nil]); omega
                go_wp2_with (at_builtin; refine append_src rfl (.tmp 90) (.tmp 94) 22 rfl w.heap.size 5 _ (.int .u8 0) 1 1 Try.underlying22 rfl rfl rfl rfl rfl (by decide) u3 _ _ rfl hR0.1 (some ⟨b, 43, none⟩) 427 427 _ rfl (g43.src).1 g43.nil g43.cells (g43.src).2.2.2 (by unfold maxLen; omega) (by omega) hZ0 ?_; intro v11 w11 ho11 hg11)
                go_ret
                exact ⟨_, rfl, row_append ho11 (List.length_replicate) hR0.2 (fun c hc => by rw [(List.mem_replicate.1 hc).2]; decide), hL0.trans (grown_below hR0 hg11 hZ0)⟩
end Go.Proofs.Ytjpahogldfmaeab
