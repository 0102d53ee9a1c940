/- FnMergeCounts: defaultUnionMergeDirsFn. -/
import Derived.Test.YtfanlhkpblemgaaMdWalk
import Derived.Test.YtfanlhkpblemgaaZz
namespace Go.Proofs.Ytfanlhkpblemgaa
open Go.ChangeShapes Go.WideShapes Go.ChangeAt Go.RowKit Go.Rd
open Go.Proofs.YtfanlhkpblemgaaW.PrintWords Go.Proofs.YtfanlhkpblemgaaW.PrintLast Go.Proofs.YtfanlhkpblemgaaW.PrintMore
open PFnMergeCounts Fi Go.WideMaps
set_option linter.unusedVariables false

theorem law9 : Maps.Keyed Try.prog 9 := Maps.string_keyed Try.underlying9
theorem zero46 (w : World) : (zeroValue 46).run Try.prog w = .ok (.pointer none) w := by kernel_rfl
theorem key_mk {s : ByteArray} (hs : s.size ≤ 4294967296) : keyOf Try.prog 9 (.string s) = some (.string s.data.toList) := keyOf_string_mk Try.underlying9 (by unfold maxLen; omega)
def NameIs (w : World) (nm : ByteArray) (e : Ending) (w' : World) : Prop := e = .returned (.string (Sp.base nm)) ∧ ∃ n, w' = w.drewN n
theorem name_of (w : World) (p fd : Nat) (x : S35) (A : Option Addr) (c : Nat) (hs : x.f0.size ≤ 4294967296) (h : InfoIs w p fd (fdOf x A c)) : Calls Try.prog 23 #[.pointer (some ⟨p, 0, none⟩)] w (NameIs w x.f0) := name_any w p fd (fdOf x A c) hs h
/-- What the map holds so far. -/
def MapRel (w : World) (mb : Nat) (l1 l2 : List S35) (n : Nat) (wr : World) : Prop := ∃ m F, PMap Try.prog 9 wr mb F m ∧ m ≤ n ∧ Hid (Chosen wr l1 l2 F) ∧ Below w.heap.size w wr
theorem base_size (s : ByteArray) : (Sp.base s).size ≤ s.size := by
  unfold Sp.base
  rw [ByteArray.size_extract]
  omega
theorem mb_ty {w : World} {mb m : Nat} {F : Lit → Option Nat} (h : PMap Try.prog 9 w mb F m) (t : TypeId) : ∀ k, k = mb → ¬ Typed w k t := by
  rintro k rfl ⟨c, fr, hc⟩
  exact h.ne_cells hc rfl
/-- Behind a store of an entry's info. -/
theorem put_rel {w wr w5 : World} {mb m n : Nat} {F : Lit → Option Nat} {E1 E2 : List S35} {x : S35} {p : Nat} (hC : Chosen wr E1 E2 (upd F (.string (key x)) (some p))) (hP : PMap Try.prog 9 wr mb F m) (hm : m ≤ n) (hB : Below w.heap.size w wr) (hmb : w.heap.size ≤ mb)
    (hP5 : PMap Try.prog 9 w5 mb (upd F (.string (key x)) (some p)) (updN F m (.string (key x)))) (hT : wr.mapTurned w5 mb) : MapRel w mb E1 E2 (n + 1) w5 := by
  obtain ⟨hw, hsz⟩ := wrote_turned hT
  refine ⟨_, _, hP5, ?_, Lib.hid (hC.wrote hw (mb_ty hP _) (mb_ty hP _)), hB.trans (hw.below hB.size (fun k hk e => by omega))⟩
  have := updN_le F m (.string (key x))
  omega
def OneRel (w : World) (mb : Nat) (l1 : List S35) (i : Value) (wr : World) : Prop := ∃ k : Nat, k ≤ l1.length ∧ i = .int .i64 k ∧ MapRel w mb (l1.take k) [] k wr
def TwoRel (w : World) (mb : Nat) (l1 l2 : List S35) (i : Value) (wr : World) : Prop := ∃ k : Nat, k ≤ l2.length ∧ i = .int .i64 k ∧ MapRel w mb l1 (l2.take k) (l1.length + k) wr
/-- The names that have come. -/
def NamesRel (w wr : World) (mb r m : Nat) (D : DataW Unit) (F : Lit → Option Nat) (v : Value) (wx : World) : Prop :=
  ∃ (left : Lit → Bool) (cnt : Nat) (Ls : List ByteArray), wx.ranges Try.prog 9 ptrR mb r m D left cnt ∧ wx.ownsRow wr.heap.size 9 1 v Ls.length (Ls.map Value.string) ∧ Ls.length + cnt ≤ m ∧ Hid (Came F left (Ls.map (fun s => .string s.data.toList))) ∧ Below wr.heap.size wr wx
theorem keyOf_str_inv {k : Value} {kl : Lit} (h : keyOf Try.prog 9 k = some kl) : ∃ s, k = .string s ∧ kl = .string s.data.toList := by
  rw [keyOf_string Try.underlying9] at h
  cases k <;> simp [mapKey, Try.underlying9] at h
  exact ⟨_, rfl, h.2.symm⟩
def mkP (o : Option Nat) : Value := .pointer (o.map (fun b => ⟨b, 0, none⟩))
theorem ptr_inv {v : Value} {y : DataW Unit × List MemPlace} (h : ptrR v = some y) : ∃ o, v = mkP o := by
  rcases ptrR_inv h with ⟨b, rfl, _⟩ | ⟨rfl, _⟩
  · exact ⟨some b, rfl⟩
  · exact ⟨none, rfl⟩
theorem ranges_cells {w : World} {mb r m : Nat} {D : DataW Unit} {left : Lit → Bool} {cnt : Nat} (h : w.ranges Try.prog 9 ptrR mb r m D left cnt) {b : Nat} {c : Array Value} {t : TypeId} {fr : Nat × Nat} (hb : w.heap[b]? = some (.cells c t fr)) : b ≠ mb ∧ b ≠ r := by
  obtain ⟨es, clock, since, seen, c0, h1, _, _, _, h2, _⟩ := h
  constructor
  · rintro rfl; rw [h1] at hb; cases hb
  · rintro rfl; rw [h2] at hb; cases hb
theorem own_cells {w : World} {B e size n : Nat} {v : Value} {xs : List Value} (h : w.ownsRow B e size v n xs) {mb r m : Nat} {D : DataW Unit} {left : Lit → Bool} {cnt : Nat} (hr : w.ranges Try.prog 9 ptrR mb r m D left cnt) : some mb ≠ v.ownBlock ∧ some r ≠ v.ownBlock := by
  constructor
  · intro e
    obtain ⟨c, hc⟩ := own_typed h mb e.symm
    exact (ranges_cells hr hc).1 rfl
  · intro e
    obtain ⟨c, hc⟩ := own_typed h r e.symm
    exact (ranges_cells hr hc).2 rfl
theorem names_more {w wo w5 w8 wr : World} {mb r m cnt cnt5 : Nat} {D : DataW Unit} {F : Lit → Option Nat} {v v1 : Value} {left5 : Lit → Bool} {Ls : List ByteArray} {s : ByteArray} (hrg5 : w5.ranges Try.prog 9 ptrR mb r m D left5 cnt5) (hLs : w5.ownsRow wo.heap.size 9 1 v Ls.length (Ls.map Value.string))
    (ho : w8.ownsRow wo.heap.size 9 1 v1 (Ls.length + 1) (Ls.map Value.string ++ [.string s])) (hg : w5.grownBy w8 v.ownBlock) (hc : Ls.length + cnt ≤ m) (hlt : cnt5 < cnt) (hC : Came F left5 (Ls.map (fun s => .string s.data.toList) ++ [.string s.data.toList])) (hB : Below wo.heap.size wo w5)
    (hl0 : wr.rangeLeft mb r = cnt) : NamesRel w wo mb r m D F v1 w8 ∧ w8.rangeLeft mb r < wr.rangeLeft mb r := by
  obtain ⟨n1, n2⟩ := own_cells hLs hrg5
  have hk := hrg5.kept hg n1 n2
  refine ⟨⟨_, _, Ls ++ [s], hk, by simpa using ho, by simp; omega, Lib.hid (by simpa using hC), hB.grown hg hB.size (fun k hk => own_base hLs k hk)⟩, ?_⟩
  rw [hk.left_eq, hl0]
  exact hlt
/-- The merged list: for each name one entry. -/
def Merged (l1 l2 : List S35) (r : List S35) : Prop := (∀ x ∈ r, pick l1 l2 (key x) = some x) ∧ (∀ s x, pick l1 l2 s = some x → x ∈ r) ∧ (r.map key).Nodup
theorem wrote_kept {w w5 w6 : World} {S : Nat → Prop} (h5 : Below w.heap.size w w5) (h6 : Below w.heap.size w w6) (hk : Kept w5 w6 S) : Wrote S w5 w6 :=
  ⟨h6.os.trans h5.os.symm, h6.tape.trans h5.tape.symm, h6.output.trans h5.output.symm, hk.1, fun i hi hs => hk.2 i hi hs⟩
/-- The state of the last loop: the first k names' infos stand in the row. -/
def LastRel (w : World) (l1 l2 : List S35) (g mb m : Nat) (F : Lit → Option Nat) (v13 : Value) (r : List ByteArray) (i : Value) (wx : World) : Prop :=
  ∃ (k : Nat) (cs : List Value) (xs : List S35), k ≤ r.length ∧ i = .int .i64 k ∧ xs.length = k ∧ Hid (Reps (InfK wx) 1 xs cs) ∧ Hid (xs.map key = (r.take k).map (·.data.toList)) ∧ Hid (∀ x ∈ xs, pick l1 l2 (key x) = some x) ∧
    wx.heap[g]? = some (.cells (cs ++ List.replicate (m - k) (Value.pointer none)).toArray 46 (0, 0)) ∧ PMap Try.prog 9 wx mb F m ∧ Hid (Chosen wx l1 l2 F) ∧ wx.ownsRow w.heap.size 9 1 v13 r.length (r.map Value.string) ∧ Below w.heap.size w wx
theorem merged_end {w : World} {l1 l2 : List S35} {F : Lit → Option Nat} {Ls r : List ByteArray} {xs : List S35} (hC : Chosen w l1 l2 F) (hd : (Ls.map (fun s : ByteArray => Lit.string s.data.toList)).Nodup ∧ ∀ k, k ∈ Ls.map (fun s : ByteArray => Lit.string s.data.toList) ↔ (F k).isSome = true) (hp : r.Perm Ls) (hk : xs.map key = r.map (·.data.toList)) (hx : ∀ x ∈ xs, pick l1 l2 (key x) = some x) : Merged l1 l2 xs := by
  have hnd : (Ls.map (·.data.toList)).Nodup := by
    have e : Ls.map (fun s : ByteArray => Lit.string s.data.toList) = (Ls.map (·.data.toList)).map Lit.string := by rw [List.map_map]; rfl
    rw [e] at hd
    exact List.Pairwise.of_map Lit.string (fun a b h e => h (by rw [e])) hd.1
  refine ⟨hx, fun s x hs => ?_, ?_⟩
  · have hF : (F (.string s)).isSome = true := by
      cases hf : F (.string s) with
      | none => rw [hC.1 s hf] at hs; cases hs
      | some _ => rfl
    obtain ⟨t, ht, e⟩ := List.mem_map.1 ((hd.2 _).2 hF)
    injection e with e
    have h1 : s ∈ xs.map key := by
      rw [hk, ← e]
      exact List.mem_map.2 ⟨t, hp.mem_iff.2 ht, rfl⟩
    obtain ⟨y, hy, hys⟩ := List.mem_map.1 h1
    have := hx y hy
    rw [hys, hs] at this
    cases this
    exact hy
  · rw [hk]
    exact ((hp.map _).nodup_iff).2 hnd
theorem set_next (cs : List Value) (n : Nat) (z v : Value) : ((cs ++ List.replicate (n + 1) z).toArray.setIfInBounds cs.length v) = (cs ++ [v] ++ List.replicate n z).toArray := by
  rw [List.setIfInBounds_toArray, List.set_append_right _ _ (Nat.le_refl _), Nat.sub_self, List.replicate_succ, List.set_cons_zero, List.append_assoc]
  rfl
theorem last_own {wx : World} {B g m : Nat} {cs : List Value} {xs : List S35} {w0 : World} (hr : Reps (InfK w0) 1 xs cs) (hg : wx.heap[g]? = some (.cells cs.toArray 46 (0, 0))) (hB : B ≤ g) (hl : xs.length = m) (hm : m ≤ 4294967296) : OwnRow (InfK w0) 46 1 wx B (.slice (some ⟨g, 0, none⟩) m m) xs := by
  subst hl
  have hcl : cs.length = xs.length := by have := hr.1; omega
  refine ⟨cs, ⟨by omega, .inr ⟨g, xs.length, cs.toArray, rfl, hB, hg, Nat.le_refl _, by unfold maxLen; omega, by simp [hcl], ?_⟩⟩, hr⟩
  rw [List.take_of_length_le (by simp; omega)]
def MergePost (w : World) (l1 l2 : List S35) (e : Ending) (w' : World) : Prop := ∃ v r, e = .returned (.tuple #[v, .nilIface]) ∧ OwnRow (InfK w') 46 1 w' w.heap.size v r ∧ Merged l1 l2 r ∧ Below w.heap.size w w'
set_option maxRecDepth 100000 in
set_option maxHeartbeats 8000000 in
theorem merge_any (A1 : Option Addr) (c1 : Nat) (l1 : List S35) (A2 : Option Addr) (c2 : Nat) (l2 : List S35) (w : World) (h1 : ReadsRow (InfK w) 1 w A1 l1.length l1) (h2 : ReadsRow (InfK w) 1 w A2 l2.length l2) (hl1 : l1.length ≤ 1000) (hl2 : l2.length ≤ 1000)
    (hs1 : ∀ x ∈ l1, x.f0.size ≤ 4294967296) (hs2 : ∀ x ∈ l2, x.f0.size ≤ 4294967296) :
    Calls Try.prog 19 #[.slice A1 l1.length c1, .slice A2 l2.length c2] w (MergePost w l1 l2) := by
  have H1 := Lib.hid h1
  have H2 := Lib.hid h2
  have HS1 := Lib.hid hs1
  have HS2 := Lib.hid hs2
  have hmm := @run_makeMap Try.prog
  clear h1 h2 hs1 hs2
  go_enter Try.func19, Try.ntmps19
  go_wp2_with fail
  go_loopw [8, 21] (fun _ i wr => OneRel w w.heap.size l1 i wr) (fun _ i _ => l1.length - (intOf i).toNat)
  case atStart => exact ⟨0, Nat.zero_le _, rfl, 0, _, PMap.made _ _ _, Nat.le_refl _, Lib.hid (Chosen.start _), (Below.refl _ _).alloc (Nat.le_refl _) _⟩
  case round =>
    obtain ⟨k, hk, rfl, m, F, hP, hmk, hCh, hB⟩ := hrel
    by_cases hlt : k < l1.length
    · obtain ⟨b, off, p, fd, A3, c3, rfl, hbl, x0, hI⟩ := ptr_row H1.out k hlt
      have y0 := (hB.cell (p := ⟨b, off + k, none⟩) hbl).trans x0
      have hI2 := hI.below hB
      have hsl := HS1.out l1[k] (List.getElem_mem _)
      obtain ⟨x, hx⟩ : ∃ x, x = l1[k] := ⟨_, rfl⟩
      rw [← hx] at hI2 hsl
      have HX := Lib.hid hx
      have hcall := name_of wr p fd x A3 c3 hsl hI2
      have HC := Lib.hid hcall
      have HI2 := Lib.hid hI2
      have hbs := base_size x.f0
      clear x0 hI hI2 hx hcall
      go_wp2_with (first
        | (go_at_call 23; refine HC.out.mono ?_; rintro e w1 ⟨rfl, j, rfl⟩)
        | (at_mapUpdate; refine wpList_put_pmap _ rfl _ _ _ 51 rfl 9 46 law9 Try.underlying51 w.heap.size m F rfl (hP.drewN j) (by unfold maxLen; omega) (.string (Sp.base x.f0)) (.string (key x)) p rfl rfl (key_mk (by omega)) trivial ?_; intro w5 hP5 hT5))
      go_roundw
      case rel =>
        refine ⟨k + 1, by omega, by go_num, ?_⟩
        rw [List.take_succ_eq_append_getElem hlt, ← HX.out]
        have hCj : Chosen (wr.drewN j) (l1.take k) [] F := hCh.out.below (below_drewN (Below.refl _ _) j)
        exact put_rel (hCj.put1 (HI2.out.below (below_drewN (Below.refl _ _) j))) (hP.drewN j) hmk (below_drewN hB j) (Nat.le_refl _) hP5 hT5
      case measure => simp [intOf]; omega
    · obtain rfl : k = l1.length := by omega
      rw [List.take_length] at hCh
      go_wp2_with fail
      go_loopw [10, 11, 12, 32] (fun _ _ _ i wx => TwoRel w w.heap.size l1 l2 i wx) (fun _ _ _ i _ => l2.length - (intOf i).toNat)
      case atStart => exact ⟨0, Nat.zero_le _, rfl, m, F, hP, by omega, hCh, hB⟩
      case round =>
        clear hP hmk hCh hB
        obtain ⟨k, hk, rfl, m, F, hP, hmk, hCh, hB⟩ := hrel
        by_cases hlt : k < l2.length
        · obtain ⟨b, off, p, fd, A3, c3, rfl, hbl, x0, hI⟩ := ptr_row H2.out k hlt
          have y0 := (hB.cell (p := ⟨b, off + k, none⟩) hbl).trans x0
          have hI2 := hI.below hB
          have hsl := HS2.out l2[k] (List.getElem_mem _)
          obtain ⟨x, hx⟩ : ∃ x, x = l2[k] := ⟨_, rfl⟩
          rw [← hx] at hI2 hsl
          have HX := Lib.hid hx
          have hcall := name_of wr p fd x A3 c3 hsl hI2
          have hcall2 := fun j => name_of (wr.drewN j) p fd x A3 c3 hsl (hI2.below (below_drewN (Below.refl _ _) j))
          have HC := Lib.hid hcall
          have HC2 := Lib.hid hcall2
          have HI2 := Lib.hid hI2
          have hbs := base_size x.f0
          have htk : l2.take (k + 1) = l2.take k ++ [x] := by rw [List.take_succ_eq_append_getElem hlt, ← hx]
          have HTK := Lib.hid htk
          clear x0 hI hI2 hx hcall hcall2 htk
          cases hf : F (.string (key x)) with
          | some q =>
            have HF := Lib.hid hf
            clear hf
            go_wp2_with (go_at_call 23; refine HC.out.mono ?_; rintro e w1 ⟨rfl, j, rfl⟩; have hlook := (hP.drewN j).look_ok law9 Try.underlying51 (zero46 _) (key_mk (s := Sp.base x.f0) (by omega)) HF.out)
            go_roundw
            case rel =>
              refine ⟨k + 1, by omega, by go_num, m, F, hP.drewN j, by omega, Lib.hid ?_, below_drewN hB j⟩
              rw [HTK.out]
              have hCj : Chosen (wr.drewN j) l1 (l2.take k) F := hCh.out.below (below_drewN (Below.refl _ _) j)
              exact hCj.skip HF.out
            case measure => simp [intOf]; omega
          | none =>
            have HF := Lib.hid hf
            clear hf
            have tok1 : True := trivial
            go_wp2_with (first
              | (go_at_call 23; have _t := tok1; refine HC.out.mono ?_; rintro e w1 ⟨rfl, j, rfl⟩; have hlook := (hP.drewN j).look_no law9 Try.underlying51 (zero46 _) (key_mk (s := Sp.base x.f0) (by omega)) HF.out; clear tok1)
              | (go_at_call 23; refine (HC2.out j).mono ?_; rintro e w1 ⟨rfl, j2, rfl⟩)
              | (at_mapUpdate; refine wpList_put_pmap _ rfl _ _ _ 51 rfl 9 46 law9 Try.underlying51 w.heap.size m F rfl ((hP.drewN j).drewN j2) (by unfold maxLen; omega) (.string (Sp.base x.f0)) (.string (key x)) p rfl rfl (key_mk (by omega)) trivial ?_; intro w5 hP5 hT5))
            go_roundw
            case rel =>
              refine ⟨k + 1, by omega, by go_num, ?_⟩
              rw [HTK.out]
              have hCj : Chosen (wr.drewN (j + j2)) l1 (l2.take k) F := hCh.out.below (below_drewN (Below.refl _ _) _)
              exact put_rel (hCj.put2 HF.out (HI2.out.below (below_drewN (Below.refl _ _) _))) (hP.drewN (j + j2)) hmk (below_drewN hB _) (Nat.le_refl _) hP5 hT5
            case measure => simp [intOf]; omega
        · obtain rfl : k = l2.length := by omega
          rw [List.take_length] at hCh
          obtain ⟨D, hown, hsz, hD⟩ := hP
          have hCm := Came.start hD
          have HCM := Lib.hid hCm
          have HD := Lib.hid hD
          clear hCm hD
          obtain ⟨wo, hwo⟩ : ∃ wo, wo = wr := ⟨_, rfl⟩
          subst hwo
          go_wp2_with (at_range; refine wpList_range_own _ rfl _ 51 rfl 9 46 law9 Try.underlying51 ptrR w.heap.size m D rfl hown ?_; intro w4 hrg4 hg4 hs4)
          go_frame
          go_loopw [13, 14] (fun v _ wx => NamesRel w wo w.heap.size wo.heap.size m D F v wx) (fun _ _ wx => wx.rangeLeft w.heap.size wo.heap.size)
          case atStart =>
            refine ⟨_, _, [], hrg4, World.ownsRow_nil _ _ _ _, ?_, HCM.out, (Below.refl _ _).grown hg4 (Nat.le_refl _) (fun k hk => by cases hk)⟩
            show 0 + _ ≤ _
            rw [hsz]; omega
          case round =>
            obtain ⟨left, cnt, Ls, hrg, hLs, hcnt, hCame, hBr⟩ := hrel
            go_wp2_with (at_next; refine wpList_next_ranges _ rfl _ rfl 9 law9 ptrR Value.string mkP (fun key kl hkey => by obtain ⟨s, rfl, _⟩ := keyOf_str_inv hkey; exact ⟨s, rfl⟩) (fun v y hv => ptr_inv hv) w.heap.size wo.heap.size m D _ _ rfl hrg ?_ ?_)
            · intro hc0 hl0
              go_wp2_with fail
              obtain ⟨ks, r, hf, hsorted, hperm⟩ := Zz.sort_some Ls (by omega)
              have hdone := hCame.out.done hl0
              have hB5 := hB.trans (hBr.mono hB.size)
              have hR0 : Kd.R Kd.string 9 wr w.heap.size (fun k => u13.ownBlock = some k) u13 Ls := Kd.R_of_own (own_weaken hLs hB.size) (fun k h => h)
              have hPw : PMap Try.prog 9 wr w.heap.size F m := ⟨D, hrg.owns, hsz, HD.out⟩
              have hcount : Ls.length = m := by have := hPw.count law9 hdone.1 hdone.2; simpa using this
              have hsort := afero_zzSort.calls ks (fun k => u13.ownBlock = some k) u13 Ls r w wr hB5 hR0 hf
              have hchw : Chosen wr l1 l2 F := hCh.out.below (hBr.mono (Nat.le_refl _))
              have hnty : ∀ t, t ≠ (9 : TypeId) → ∀ k, u13.ownBlock = some k → ¬ Typed wr k t := by
                rintro t ht k hk' hty
                obtain ⟨c, hc⟩ := own_typed hLs k hk'
                exact ht (typed_one hc hty).symm
              have hnmb : ¬ u13.ownBlock = some w.heap.size := fun e => (own_cells hLs hrg).1 e.symm
              have HSORT := Lib.hid hsort
              have HDONE := Lib.hid hdone
              have HPERM := Lib.hid hperm
              have HCOUNT := Lib.hid hcount
              have HCHW := Lib.hid hchw
              have hrl : r.length = m := by rw [hperm.length_eq, hcount]
              have HRL := Lib.hid hrl
              clear hsort hdone hperm hcount hsorted hf hR0 hchw hrl
              refine HSORT.out.mono ?_
              rintro e w6 ⟨rfl, hR6, hB6, hK6⟩
              have hW6 := wrote_kept hB5 hB6 hK6
              have hP6 := hPw.wrote hW6 hnmb
              have hCh6 := HCHW.out.wrote hW6 (hnty _ (by decide)) (hnty _ (by decide))
              have hown6 : w6.ownsRow w.heap.size 9 1 u13 r.length (r.map Value.string) := Kd.own_of_R hR6
              have hlen := hP6.len_run Try.underlying51
              obtain ⟨i0, hi, hzz⟩ := Option.map_eq_some_iff.1 info46
              simp only [Prod.mk.injEq] at hzz
              obtain ⟨Z, hZ, hZs, hmk⟩ := make_run (P := Try.prog) (t := 38) Try.underlying38 hi hzz.1 m (by rw [hzz.2.2]; omega) (by unfold maxLen; omega)
              have hZ2 : Z.toList = List.replicate m (.pointer none) := by
                rw [hZ.out, hzz.2.1, Nat.mul_one, show (Value.pointer none).cells = #[Value.pointer none] from rfl, toList_madeCells_one]
              have HZ := Lib.hid hZ2
              have HCH6 := Lib.hid hCh6
              obtain ⟨A13, k13, e13⟩ := own_slice hown6
              clear hZ hZ2 hZs hzz hi hCh6 hR6 hK6 hW6 HSORT hPw
              subst e13
              go_wp2_with fail
              go_loopw [16, 17, 67] (fun _ _ i wx => LastRel w l1 l2 w6.heap.size w.heap.size m F (.slice A13 r.length k13) r i wx) (fun _ _ i _ => r.length - (intOf i).toNat)
              case atStart =>
                have hba := (Below.refl w6.heap.size w6).alloc (Nat.le_refl _) (.cells Z 46)
                refine ⟨0, [], [], Nat.zero_le _, rfl, rfl, Lib.hid (Reps.none _ _), Lib.hid rfl, Lib.hid (fun x hx => by cases hx), ?_, hP6.below (B := 0) hba, Lib.hid (HCH6.out.below hba), pw_own_below hown6 hba, hB6.trans (hba.mono hB6.size)⟩
                rw [List.nil_append, Nat.sub_zero, ← HZ.out]
                exact alloc_new _ _
              case round =>
                obtain ⟨wu, hwu⟩ : ∃ wu, wu = wr := ⟨_, rfl⟩
                obtain ⟨k, cs, xs, hk, rfl, hxl, hRp, hXk, hXp, hgx, hPx, hChx, hownx, hBx⟩ := hrel
                by_cases hlt : k < r.length
                · have hrm := HRL.out
                  obtain ⟨gA, cA, eA, hgA1, hgA2⟩ := World.ownsRow.form hownx (by omega)
                  injection eA with eA1 eA2 eA3
                  subst eA1
                  subst eA3
                  have hcell : wr.cell? ⟨gA, k, none⟩ = some (.string (r[k])) := by
                    have := hownx.cellAt k (by omega)
                    simp [hlt] at this
                    simpa using this
                  have hin : r[k] ∈ Ls := HPERM.out.mem_iff.1 (List.getElem_mem _)
                  have hrk : r.take (k + 1) = r.take k ++ [r[k]] := List.take_succ_eq_append_getElem hlt
                  obtain ⟨s, hs⟩ : ∃ s, s = r[k] := ⟨_, rfl⟩
                  rw [← hs] at hcell hin hrk
                  have hF : (F (.string s.data.toList)).isSome = true := (HDONE.out.2 _).1 (List.mem_map.2 ⟨s, hin, rfl⟩)
                  obtain ⟨p, hp⟩ := Option.isSome_iff_exists.1 hF
                  obtain ⟨t, x, fd, A3, c3, et, hpk, hI⟩ := hChx.out.2 _ _ hp
                  injection et with et
                  subst et
                  obtain ⟨hkx, hmem⟩ := pick_key hpk
                  have hss : s.size ≤ 4294967296 := by
                    have h1 : s.size = (Sp.base x.f0).size := by rw [Sp.size_of, Sp.size_of]; exact congrArg List.length hkx.symm
                    have h2 := base_size x.f0
                    have h3 : x.f0.size ≤ 4294967296 := by
                      rcases hmem with h | h
                      · exact HS1.out x h
                      · exact HS2.out x h
                    omega
                  have hlook := hPx.look law9 Try.underlying51 (zero46 _) (key_mk hss) hp
                  have hfz := free_of hgx k
                  have hcl : cs.length = k := by have := hRp.out.1; omega
                  obtain ⟨n, hn⟩ : ∃ n, m - k = n + 1 := ⟨m - k - 1, by omega⟩
                  have hc46 : wr.cell? ⟨w6.heap.size, k, none⟩ = some (.pointer none) := by
                    rw [cell_of hgx, hn]
                    simp [hcl]
                  have hgz := lt_of_heap hgx
                  have hset := Go.Rd.heap_setCell_same (o := k) hgx (.pointer (some ⟨p, 0, none⟩))
                  rw [hn, ← hcl, set_next] at hset
                  rw [hcl] at hset
                  have hWs : Wrote (fun j => j = w6.heap.size) wr (wr.setCell ⟨w6.heap.size, k, none⟩ (.pointer (some ⟨p, 0, none⟩))) := Wrote.setCell (S := fun j => j = w6.heap.size) (p := ⟨w6.heap.size, k, none⟩) (Wrote.refl _ _) (fun _ => rfl) _
                  have hnt : ∀ t, t ≠ (46 : TypeId) → ∀ j, j = w6.heap.size → ¬ Typed wr j t := by
                    rintro t ht j rfl hty
                    exact ht (typed_one hgx hty).symm
                  have hR2 : Reps (InfK (wr.setCell ⟨w6.heap.size, k, none⟩ (.pointer (some ⟨p, 0, none⟩)))) 1 (xs ++ [x]) (cs ++ [.pointer (some ⟨p, 0, none⟩)]) := by
                    refine Reps.snoc (hRp.out.imp_ (fun y c hy => hy.wrote hWs (hnt _ (by decide)) (hnt _ (by decide)))) ?_ rfl
                    exact ⟨p, fd, A3, c3, rfl, hI.wrote hWs (fun e => hnt _ (by decide) p e (Typed.of hI.1)) (fun e => hnt _ (by decide) fd e (Typed.of hI.2))⟩
                  have hX2 : (xs ++ [x]).map key = (r.take (k + 1)).map (·.data.toList) := by
                    rw [List.map_append, hrk, List.map_append, hXk.out]
                    simp [hkx]
                  have hXp2 : ∀ y ∈ xs ++ [x], pick l1 l2 (key y) = some y := by
                    intro y hy
                    rcases List.mem_append.1 hy with h | h
                    · exact hXp.out y h
                    · obtain rfl := List.mem_singleton.1 h
                      rw [hkx]; exact hpk
                  have hP2 := hPx.wrote hWs (fun e => hPx.ne_cells hgx e.symm)
                  have hC2 := hChx.out.wrote hWs (hnt _ (by decide)) (hnt _ (by decide))
                  have hO2 : (wr.setCell ⟨w6.heap.size, k, none⟩ (.pointer (some ⟨p, 0, none⟩))).ownsRow w.heap.size 9 1 (.slice (some ⟨gA, 0, none⟩) r.length k13) r.length (r.map Value.string) := own_move hownx (fun j hj => hWs.block j (own_lt hownx j hj) (fun e => by
                    obtain ⟨c, hc⟩ := own_typed hownx j hj
                    exact hnt 9 (by decide) j e (Typed.of hc)))
                  have hB2 : Below w.heap.size w (wr.setCell ⟨w6.heap.size, k, none⟩ (.pointer (some ⟨p, 0, none⟩))) := hBx.trans (hWs.below hBx.size (fun j hj e => by have := hB6.size; omega))
                  have HR2 := Lib.hid hR2
                  have HX2 := Lib.hid hX2
                  have HXP2 := Lib.hid hXp2
                  have HC2 := Lib.hid hC2
                  have HSET := Lib.hid hset
                  have HP2 := Lib.hid hP2
                  have HO2 := Lib.hid hO2
                  have hkm : k < m := by omega
                  have hmn : m - (k + 1) = n := by omega
                  have HMN := Lib.hid hmn
                  clear hR2 hX2 hXp2 hC2 hset hP2 hO2 hWs hnt hn hcl hp hpk hkx hmem hI hs hin hrk hF hss hrm hmn hRp hXk hXp hChx hownx hPx hwu
                  go_wp2_with fail
                  go_roundw
                  case rel => exact ⟨k + 1, cs ++ [.pointer (some ⟨p, 0, none⟩)], xs ++ [x], by omega, by go_num, by simp; omega, HR2, HX2, HXP2, by rw [HMN.out]; exact HSET.out, HP2.out, HC2, HO2.out, hB2⟩
                  case measure => simp [intOf]; omega
                · obtain rfl : k = r.length := by omega
                  have hrm := HRL.out
                  have hfin : OwnRow (InfK wr) 46 1 wr w.heap.size (.slice (some ⟨w6.heap.size, 0, none⟩) m m) xs := by
                    have hgx' := hgx
                    rw [hrm, Nat.sub_self] at hgx'
                    simp only [List.replicate_zero, List.append_nil] at hgx'
                    exact last_own hRp.out hgx' (by have := hB6.size; omega) (by omega) (by omega)
                  have hmg : Merged l1 l2 xs := merged_end hChx.out HDONE.out HPERM.out (by have := hXk.out; rw [List.take_length] at this; exact this) hXp.out
                  have HFIN := Lib.hid hfin
                  have HMG := Lib.hid hmg
                  clear hfin hmg hrm
                  go_wp2_with fail
                  go_ret2
                  exact ⟨_, xs, rfl, HFIN.out, HMG.out, hBx⟩
            · intro s o kl y1 y2 w5 cnt5 hkey hlk5 hv hat hrg5 hlt5 hg5 hs5 hen
              obtain ⟨s', es, rfl⟩ := keyOf_str_inv hkey
              injection es with es
              subst es
              have hisk : Maps.has D (.string s.data.toList) = true := Maps.has_true_of_atKey hat
              have hF : (F (.string s.data.toList)).isSome = true := by rw [← HD.out.has_iff]; exact hisk
              have hCame2 := hCame.out.more (kl := .string s.data.toList) trivial hlk5 hF
              have hLs5 : w5.ownsRow wo.heap.size 9 1 u13 Ls.length (Ls.map Value.string) := own_move hLs (fun k hk => hg5.block k (own_lt hLs k hk) (fun e => (own_cells hLs hrg).2 (by rw [hk, e])))
              have hle := hrg5.left_eq
              have hle0 := hrg.left_eq
              have hBr5 : Below wo.heap.size wo w5 := hBr.grown hg5 hBr.size (fun q hq => by cases hq; exact Nat.le_refl _)
              have HCA := Lib.hid hCame2
              have HAT := Lib.hid hat
              clear hat hCame2 hCame hle
              go_wp2_with (at_builtin; refine print_append_cells (w0 := wo) wo.heap.size rfl (.tmp 56) (.tmp 58) 26 9 (.string ⟨#[]⟩) 1 16 rfl Try.underlying26 Mn.infoS rfl (by decide) (by decide) _ _ _ [.string s] rfl (by simp [Act.eval]) rfl (by simp [Value.oneCell']) hLs5 hBr5 hBr5.size (by omega) ?_; intro v1 w8 hown8 hB8 hg8 hat8)
              exact names_more hrg5 hLs5 hown8 hg8 hcnt hlt5 (by have := HCA.out; exact this) hBr5 hle0
end Go.Proofs.Ytfanlhkpblemgaa
