/-
  A proof of 'Rows.FnTallyJoinConcatenatesSaid'. The frame was written by the kit's own shell tool; the walk is ours.
-/
import Derived.Test.Qxb6002450aRows
import Derived.WalkKit
import Derived.ProofKit
import Derived.OpenShut
import Derived.ShutString
import Derived.ChangeOld
import Derived.Below
import Derived.Test.Qxb6002450aWalksB
namespace Go.Proofs.Qxb6002450a.fnTallyJoinConcatenates
open Go.ChangeShapes Go.WideShapes Go.ChangeAt Go.RowKit
open Go.ChangeMaps (open_string shut_string)
set_option linter.unusedVariables false

theorem own : ownKnob Try.prog.godebug = none := by kernel_rfl
theorem laidOut : laidOutB Try.prog = true := by kernel_rfl

/-! ### STEP 1: THE WALK: the Go text returns true, AND WRITES NOTHING THAT WAS THERE: 'Below w.heap.size w w'' (Derived/Below.lean: '.refl', '.alloc', '.drew', '.setCell' at a new block, '.trans'). Open each 'IsRow' by 'rcases' AHEAD of 'go_enter'; part every test ahead of the walk. -/
set_option maxHeartbeats 1600000 in
set_option maxRecDepth 100000 in
theorem walk (a0 : Option Addr) (len0 cap0 : Nat) (z0 : List Int) (a1 : Option Addr) (len1 cap1 : Nat) (z1 : List Int) (w : World) (w0 : IsRow .u8 w a0 len0 cap0 z0) (w1 : IsRow .u8 w a1 len1 cap1 z1) :
    Calls Try.prog 3 #[.slice a0 len0 cap0, .slice a1 len1 cap1] w fun e w' => e = .returned (.bool true) ∧ Below w.heap.size w w' := by
  have hn0 := len_max w0
  have hn1 := len_max w1
  by_cases hb : len0 + len1 ≤ 1048576
  case neg =>
    have hb' : decide (len0 + len1 ≤ 1048576) = false := by simp; omega
    go_enter Try.func3, Try.ntmps3
    go_wp2_with (go_at_call 5; refine (bytes_any _ _ _ _ _ _ _ hn0 hn1).mono ?_; rintro e w' ⟨rfl, rfl⟩)
    go_ret
    exact ⟨rfl, Below.refl _ _⟩
  have hb' : decide (len0 + len1 ≤ 1048576) = true := by simp; omega
  by_cases h0 : 65536 < len0
  · go_enter Try.func3, Try.ntmps3
    go_wp2_with (go_at_call 5; refine (bytes_any _ _ _ _ _ _ _ hn0 hn1).mono ?_; rintro e w' ⟨rfl, rfl⟩)
    go_ret
    exact ⟨rfl, Below.refl _ _⟩
  by_cases h1 : 65536 < len1
  · go_enter Try.func3, Try.ntmps3
    go_wp2_with (go_at_call 5; refine (bytes_any _ _ _ _ _ _ _ hn0 hn1).mono ?_; rintro e w' ⟨rfl, rfl⟩)
    go_ret
    exact ⟨rfl, Below.refl _ _⟩
  go_enter Try.func3, Try.ntmps3
  go_wp2_with (go_at_call 5; refine (bytes_any _ _ _ _ _ _ _ hn0 hn1).mono ?_; rintro e w' ⟨rfl, rfl⟩)
  refine (clone_any _ _ _ _ _ w0 (by omega)).mono ?_
  rintro e wA ⟨aT, cT, rfl, iT, belA, szA, szA'⟩
  go_wp2_with fail
  have w1A : IsRow .u8 wA a1 len1 cap1 z1 := w1.below belA
  refine (clone_any _ _ _ _ _ w1A (by omega)).mono ?_
  rintro e wB ⟨aU, cU, rfl, iU, belB, szB, szB'⟩
  go_wp2_with fail
  refine (pool_any _).mono ?_
  rintro e wC ⟨rfl, pl, szC, belC⟩
  have iTC := (iT.below belB).below belC
  have iUC := iU.below belC
  have belWC : Below w.heap.size w wC := (belA.trans (belB.mono belA.size)).trans (belC.mono (Nat.le_trans belA.size belB.size))
  clear iT iU belA belB belC szA szA' szB szB'
  go_wp2_with fail
  have hgC : wB.heap.size < wC.heap.size := by omega
  refine (build_any wB.heap.size _ _ aT len0 cT _ _ wC pl iTC hgC).mono ?_
  rintro e wD ⟨pT, rfl, sT, belD⟩
  have plD := pl.below belD (by omega)
  have iTD := iTC.below belD
  have iUD := iUC.below belD
  go_wp2_with fail
  have hgD : wB.heap.size < wD.heap.size := Nat.lt_of_lt_of_le hgC belD.size
  refine (build_any wB.heap.size _ _ aU len1 cU _ _ wD plD iUD hgD).mono ?_
  rintro e wE ⟨pU, rfl, sU, belE⟩
  have plE := plD.below belE (by have := belD.size; omega)
  have iTE := iTD.below belE
  have iUE := iUD.below belE
  have sTE := sT.below belE (Nat.le_refl _)
  go_wp2_with fail
  refine (joinZ_any (secOf wB.heap.size) _ _ _ pT pU wE sTE belE.size).mono ?_
  rintro e wF ⟨pJ, rfl, sJ, belF⟩
  have plF := plE.below belF (by have := belD.size; have := belE.size; omega)
  have iTF := iTE.below belF
  have iUF := iUE.below belF
  have sTF := sTE.below belF belE.size
  have sUF := sU.below belF (Nat.le_refl _)
  have belWF : Below w.heap.size w wF := ((belWC.trans (belD.mono belWC.size)).trans (belE.mono (Nat.le_trans belWC.size belD.size))).trans (belF.mono (Nat.le_trans (Nat.le_trans belWC.size belD.size) belE.size))
  have hDE := belE.size
  have hCF : wC.heap.size ≤ wF.heap.size := Nat.le_trans belD.size (Nat.le_trans belE.size belF.size)
  have hDF : wD.heap.size ≤ wF.heap.size := Nat.le_trans belE.size belF.size
  have hEF : wE.heap.size ≤ wF.heap.size := belF.size
  have szF : Hid (wC.heap.size = wB.heap.size + 257) := szC
  clear pl plD plE iTC iUC iTD iUD iTE iUE sT sTE sU belWC belD belE belF hgC hgD w0 w1 w1A szC
  go_wp2_with fail
  go_loopw [9, 10, 11] (fun t l i wr => ∃ k : Nat, k ≤ len0 ∧ i = .int .i64 k ∧ ∃ q q' m, t = .pointer q ∧ l = .pointer q' ∧ wr = wF.drewN m ∧ Seg wF (secOf wB.heap.size) wE.heap.size wF.heap.size (.pointer q) (lst (byteOf z0) k (len0 - k)) (.pointer pU) ∧ Seg wF (secOf wB.heap.size) wC.heap.size wD.heap.size (.pointer q') (lst (byteOf z0) k (len0 - k)) (.pointer none)) (fun _ _ i _ => len0 - (intOf i).toNat)
  case atStart => exact ⟨0, by omega, rfl, pJ, pT, 0, rfl, rfl, rfl, sJ, sTF⟩
  case round =>
    obtain ⟨k, hk, rfl, q, q', m, rfl, rfl, hwr, hs, hs'⟩ := hrel
    by_cases hlt : k < len0
    · rw [lst_succ _ k len0 hlt] at hs hs'
      obtain ⟨b, r, g1, g2, g3, hrow, g6⟩ := hs
      obtain ⟨b', r', g1', g2', g3', hrow', g6'⟩ := hs'
      obtain rfl : q = some ⟨b, 0, none⟩ := by simpa using g1
      obtain rfl : q' = some ⟨b', 0, none⟩ := by simpa using g1'
      clear g1 g1'
      obtain ⟨n, hn⟩ : ∃ n, n = byteOf z0 k := ⟨_, rfl⟩
      have hfk : n < 256 := by rw [hn]; exact iTF.byte k
      have hrowR : wr.rowIs b 42 2 _ := hrow.of_block (by rw [hwr]; rfl)
      have hrowR' : wr.rowIs b' 42 2 _ := hrow'.of_block (by rw [hwr]; rfl)
      rw [← hn] at hrowR hrowR'
      have c4 : wr.cell? ⟨b, 0, none⟩ = some (.pointer (some ⟨wB.heap.size + 1 + n, 0, none⟩)) := hrowR.cell (i := 0) (by omega)
      have c5 : wr.cell? ⟨b, 1, none⟩ = some (.pointer r) := hrowR.cell (i := 1) (by omega)
      have c5' : wr.cell? ⟨b', 1, none⟩ = some (.pointer r') := hrowR'.cell (i := 1) (by omega)
      have hne := tally_eql hrowR hrowR' (by omega)
      have hse := fun w' => sec_neq (⟨wB.heap.size + 1 + n, 0, none⟩) w'
      have hi0 := fun w' => iTF.at (c := cT) hlt w'
      have hc0 : wr.cell? ⟨w.heap.size, k, none⟩ = some (.int .u8 (n : Int)) := by rw [hwr, hn]; exact iTF.cell hlt
      have hi1 := fun w' => Pool.at (g := wB.heap.size) hfk w'
      have hc1 : wr.cell? ⟨wB.heap.size, n, none⟩ = some (.pointer (some ⟨wB.heap.size + 1 + n, 0, none⟩)) := by rw [hwr]; exact plF.top.cell hfk
      have Hwr : Hid (wr = wF.drewN m) := hwr
      clear hwr hn hrow hrow' hrowR hrowR'
      go_wp2_with fail
      go_quiet ((go_at_call 10; exact Calls.quiet_of_same (sectionOf_any _ _ _ (by exact c4))))
      go_wp2_with fail
      refine (next_any _ _ _ (by exact c5)).mono ?_
      rintro e w' ⟨rfl, rfl⟩
      go_wp2_with fail
      refine (next_any _ _ _ (by exact c5')).mono ?_
      rintro e w' ⟨rfl, rfl⟩
      go_wp2_with fail
      go_roundw
      case rel => exact ⟨k + 1, by omega, by go_num, r, r', m + nq, rfl, rfl, by rw [Hwr.out]; simp, g6, g6'⟩
      case measure => simp [intOf]; omega
    · have hk' : k = len0 := by omega
      subst hk'
      rw [Nat.sub_self] at hs hs'
      obtain rfl : q = pU := by simpa [lst, Seg] using hs
      clear hs hs'
      have hbm : Below wF.heap.size wF wr := by rw [hwr]; exact below_drewN (Below.refl _ _) m
      have plR := plF.below hbm (by rw [← szF.out]; exact hCF)
      have iTR := iTF.below hbm
      have iUR := iUF.below hbm
      have sTR := sTF.below hbm hDF
      have sUR := sUF.below hbm hEF
      have belR := belWF.trans (hbm.mono belWF.size)
      clear hwr plF iTF iUF sTF sUF belWF
      have hne := fun w' => tally_neq_any q w'
      go_wp2_with fail
      refine (reads_any wB.heap.size _ _ _ _ pT aT k cT _ _ wr plR iTR sTR).mono ?_
      rintro e w2 ⟨rfl, m2, hm2⟩
      have hb2 : Below wr.heap.size wr w2 := by rw [hm2]; exact below_drewN (Below.refl _ _) m2
      have pl2 := plR.below hb2 (Nat.le_trans (by rw [← szF.out]; exact hCF) hbm.size)
      have iU2 := iUR.below hb2
      have sU2 := sUR.below hb2 (Nat.le_trans hEF hbm.size)
      have belR2 := belR.trans (hb2.mono belR.size)
      clear hm2
      go_wp2_with fail
      refine (reads_any wB.heap.size _ _ _ _ q aU len1 cU _ _ w2 pl2 iU2 sU2).mono ?_
      rintro e w3 ⟨rfl, m3, hm3⟩
      have belR3 : Below w.heap.size w w3 := by rw [hm3]; exact below_drewN belR2 m3
      clear hm3
      go_wp2_with fail
      go_ret
      exact ⟨rfl, belR3⟩

/-! ### THE ROW's STEP: WRITTEN OUT: LEAVE IT -/
set_option maxRecDepth 100000 in
theorem lifted (os : Os) (started : os.Started) (H : Type) (enc : TypeId × Value → H) :
    ReturnsInHanded {} Try.checked os 3 .any (Rows.fnTallyJoinConcatenatesSpec.pre6 enc Try.prog Try.f3 Rows.fnTallyJoinConcatenatesRow.domain false) (Rows.fnTallyJoinConcatenatesSpec.post enc Try.prog Try.f3 false true false false) := by
  refine returnsInHanded_of_change (C := Try.checked) own started (by kernel_rfl) Try.func3
    (ChangeSpec.witness6 (enc := enc) (C := Try.checked) false ⟨#[], #[.slice none 0 0, .slice none 0 0], []⟩ 8 (by kernel_rfl) (by kernel_rfl) (by kernel_rfl) (by kernel_rfl)) ?_
  intro W base args ds gs before hval0 hW hcnd _
  have hval : ∀ (j : Nat) t v, Try.f3.params[j]? = some t → args[j]? = some v → Value.okWide Try.prog W .any base t v := hval0
  have hW' := hW
  obtain ⟨p, q, hA0, hV, rfl, hfz, hnd⟩ := hW
  have hA : DataW.TrodAll enc Try.prog W 0 (fun _ => true) true Try.f3.params.toList args.toList ds p := hA0
  rw [Try.params3] at hA hval
  obtain ⟨v0, vs0, d0, ds0, p0, q0, hargs, rfl, rfl, h0, r0⟩ := trodAll_cons hA
  obtain ⟨v1, vs1, d1, ds1, p1, q1, rfl, rfl, rfl, h1, r1⟩ := trodAll_cons r0
  obtain ⟨rfl, rfl, rfl⟩ := trodAll_nil r1
  obtain rfl : args = #[v0, v1] := by cases args; simp_all
  obtain ⟨rfl, rfl⟩ := trodVars_none hV
  obtain ⟨a0, len0, cap0, rfl⟩ := okWide_slice Try.underlying22 (hval 0 22 v0 rfl rfl)
  have k0 := h0
  have lt0 : ∀ x ∈ p0, x.block < W.heap.size := by obtain ⟨m, hm⟩ := k0; exact DataW.trod_lt m _ _ _ hm
  obtain ⟨z0, w0⟩ : ∃ zs, IsRow .u8 W a0 len0 cap0 zs := by
    obtain ⟨fuel, hf⟩ := h0
    rcases open_ints Try.underlying22 Try.underlying5 (by kernel_rfl) hf with ⟨hcs, _⟩ | ⟨x, l, c, zs, hcs, _, hl, hm, hz, _, hcell, hwz⟩
    · simp [Value.cells] at hcs
      obtain ⟨rfl, rfl, rfl⟩ := hcs
      exact ⟨[], .inl ⟨rfl, rfl, rfl, rfl⟩⟩
    · simp [Value.cells] at hcs
      obtain ⟨rfl, rfl, rfl⟩ := hcs
      exact ⟨zs, .inr ⟨_, rfl, hl, hm, by simpa using hz, hcell, hwz⟩⟩
  obtain ⟨a1, len1, cap1, rfl⟩ := okWide_slice Try.underlying22 (hval 1 22 v1 rfl rfl)
  have k1 := h1
  have lt1 : ∀ x ∈ p1, x.block < W.heap.size := by obtain ⟨m, hm⟩ := k1; exact DataW.trod_lt m _ _ _ hm
  obtain ⟨z1, w1⟩ : ∃ zs, IsRow .u8 W a1 len1 cap1 zs := by
    obtain ⟨fuel, hf⟩ := h1
    rcases open_ints Try.underlying22 Try.underlying5 (by kernel_rfl) hf with ⟨hcs, _⟩ | ⟨x, l, c, zs, hcs, _, hl, hm, hz, _, hcell, hwz⟩
    · simp [Value.cells] at hcs
      obtain ⟨rfl, rfl, rfl⟩ := hcs
      exact ⟨[], .inl ⟨rfl, rfl, rfl, rfl⟩⟩
    · simp [Value.cells] at hcs
      obtain ⟨rfl, rfl, rfl⟩ := hcs
      exact ⟨zs, .inr ⟨_, rfl, hl, hm, by simpa using hz, hcell, hwz⟩⟩
  clear hA0 hval0
  refine (walk a0 len0 cap0 z0 a1 len1 cap1 z1 W w0 w1).mono fun e W' ⟨he, bel⟩ => ?_
  subst he
  exact ⟨_, rfl, _, _, _, [], _, [], hW', trodAll_mk1 (shut_bool Try.underlying4 _), (trodAll_cons_mk (Below.trod laidOut (by kernel_rfl) (of_decide_eq_true (by kernel_rfl)) k0 bel lt0) (trodAll_cons_mk (Below.trod laidOut (by kernel_rfl) (of_decide_eq_true (by kernel_rfl)) k1 bel lt1) trodAll_mk0)), rfl, bel.frame _, fun h => by cases h⟩

theorem over : Rows.fnTallyJoinConcatenatesRow.holds Try.pinned (OpenSpec.ofChange Rows.fnTallyJoinConcatenatesSpec) :=
  OpenClaim.holds_of_wide 3 Try.f3 rfl rfl rfl rfl rfl rfl rfl ⟨rfl, rfl, rfl, rfl, rfl⟩ rfl rfl rfl rfl rfl (by kernel_rfl) Try.func3 (by kernel_rfl)
    (of_decide_eq_true (by kernel_rfl)) (by unfold Func.isWrapper; first | (rw [if_pos (by decide +kernel)]; kernel_rfl) | (rw [if_neg (by decide +kernel)]; exact ⟨rfl, rfl⟩))
    (fun os started H enc _ => lifted os started H enc)

/-- ████ THE STATEMENT ████ -/
theorem proved : Rows.FnTallyJoinConcatenatesSaid := over
end Go.Proofs.Qxb6002450a.fnTallyJoinConcatenates
