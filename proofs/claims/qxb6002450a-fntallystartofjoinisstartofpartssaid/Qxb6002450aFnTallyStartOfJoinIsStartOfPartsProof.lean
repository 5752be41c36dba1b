/-
  A proof of 'Rows.FnTallyStartOfJoinIsStartOfPartsSaid'. The frame was written by the kit's own shell tool; the walk is ours.
-/
import Derived.Test.Qxb6002450aRows
import Derived.WalkKit
import Derived.ProofKit
import Derived.OpenShut
import Derived.ShutString
import Derived.ChangeOld
import Derived.Below
import Derived.Test.Qxb6002450aWalksC
namespace Go.Proofs.Qxb6002450a.fnTallyStartOfJoinIsStartOfParts
open Go.ChangeShapes Go.WideShapes Go.ChangeAt Go.RowKit
open Go.ChangeMaps (open_string shut_string)
set_option linter.unusedVariables false

theorem own : ownKnob Try.prog.godebug = none := by kernel_rfl
theorem laidOut : laidOutB Try.prog = true := by kernel_rfl

/-! ### STEP 1: THE WALK: the Go text returns true, AND WRITES NOTHING THAT WAS THERE: 'Below w.heap.size w w'' (Derived/Below.lean: '.refl', '.alloc', '.drew', '.setCell' at a new block, '.trans'). Open each 'IsRow' by 'rcases' AHEAD of 'go_enter'; part every test ahead of the walk. -/
set_option maxHeartbeats 1600000 in
set_option maxRecDepth 100000 in
theorem walk (a0 : Option Addr) (len0 cap0 : Nat) (z0 : List Int) (a1 : Option Addr) (len1 cap1 : Nat) (z1 : List Int) (a2 : Int) (w : World) (w0 : IsRow .u8 w a0 len0 cap0 z0) (w1 : IsRow .u8 w a1 len1 cap1 z1) (w2 : (Lit.int .u8 a2).wf = true) :
    Calls Try.prog 4 #[.slice a0 len0 cap0, .slice a1 len1 cap1, .int .u8 a2] w fun e w' => e = .returned (.bool true) ∧ Below w.heap.size w w' := by
  have hn0 := len_max w0
  have hn1 := len_max w1
  have hr := bounds_u8 w2
  obtain ⟨R, rfl⟩ := Int.eq_ofNat_of_zero_le hr.1
  by_cases hb : len0 + len1 ≤ 1048576
  case neg =>
    have hb' : decide (len0 + len1 ≤ 1048576) = false := by simp; omega
    go_enter Try.func4, Try.ntmps4
    go_wp2_with (go_at_call 13; refine (bytes4_any _ _ _ _ _ _ _ _ hn0 hn1).mono ?_; rintro e w' ⟨rfl, rfl⟩)
    go_ret
    exact ⟨rfl, Below.refl _ _⟩
  have hb' : decide (len0 + len1 ≤ 1048576) = true := by simp; omega
  by_cases h0 : 65536 < len0
  · go_enter Try.func4, Try.ntmps4
    go_wp2_with (go_at_call 13; refine (bytes4_any _ _ _ _ _ _ _ _ hn0 hn1).mono ?_; rintro e w' ⟨rfl, rfl⟩)
    go_ret
    exact ⟨rfl, Below.refl _ _⟩
  by_cases h1 : 65536 < len1
  · go_enter Try.func4, Try.ntmps4
    go_wp2_with (go_at_call 13; refine (bytes4_any _ _ _ _ _ _ _ _ hn0 hn1).mono ?_; rintro e w' ⟨rfl, rfl⟩)
    go_ret
    exact ⟨rfl, Below.refl _ _⟩
  by_cases h2 : 16 < R
  · go_enter Try.func4, Try.ntmps4
    go_wp2_with (go_at_call 13; refine (bytes4_any _ _ _ _ _ _ _ _ hn0 hn1).mono ?_; rintro e w' ⟨rfl, rfl⟩)
    go_ret
    exact ⟨rfl, Below.refl _ _⟩
  go_enter Try.func4, Try.ntmps4
  go_wp2_with (go_at_call 13; refine (bytes4_any _ _ _ _ _ _ _ _ hn0 hn1).mono ?_; rintro e w' ⟨rfl, rfl⟩)
  refine (clone_any _ _ _ _ _ w0 (by omega)).mono ?_
  rintro e wA ⟨aT, cT, rfl, iT, belA, szA, szA'⟩
  go_wp2_with fail
  have w1A : IsRow .u8 wA a1 len1 cap1 z1 := w1.below belA
  refine (clone_any _ _ _ _ _ w1A (by omega)).mono ?_
  rintro e wB ⟨aU, cU, rfl, iU, belB, szB, szB'⟩
  go_wp2_with fail
  refine (pool_any _).mono ?_
  rintro e wC ⟨rfl, plA, szC, belC⟩
  have szC1 : wC.heap.size ≤ wB.heap.size + 257 := by omega
  have szC2 : wB.heap.size + 257 ≤ wC.heap.size := by omega
  clear szC
  go_wp2_with fail
  refine (pool_any _).mono ?_
  rintro e wD ⟨rfl, plB, szD, belD⟩
  have szD1 : wD.heap.size ≤ wC.heap.size + 257 := by omega
  have szD2 : wC.heap.size + 257 ≤ wD.heap.size := by omega
  clear szD
  have iTD := ((iT.below belB).below belC).below belD
  have iUD := (iU.below belC).below belD
  have plAD := plA.below belD (by omega)
  have belWD : Below w.heap.size w wD := ((belA.trans (belB.mono belA.size)).trans (belC.mono (Nat.le_trans belA.size belB.size))).trans (belD.mono (Nat.le_trans (Nat.le_trans belA.size belB.size) belC.size))
  have hT : 0 < len0 → w.heap.size < wB.heap.size := fun h => Nat.lt_of_lt_of_le (szA' h) belB.size
  have hU : 0 < len1 → wA.heap.size < wB.heap.size := szB'
  have hwB : w.heap.size ≤ wB.heap.size := Nat.le_trans belA.size belB.size
  clear iT iU belA belB belC belD szA szA' szB szB' plA w0 w1 w1A
  go_wp2_with fail
  refine (build_any wB.heap.size _ _ aT len0 cT _ _ wD plAD iTD (by omega)).mono ?_
  rintro e wE ⟨pT, rfl, sT, belE⟩
  have plAE := plAD.below belE (by omega)
  have plBE := plB.below belE (by omega)
  have iTE := iTD.below belE
  have iUE := iUD.below belE
  have hE := belE.size
  go_wp2_with fail
  refine (build_any wB.heap.size _ _ aU len1 cU _ _ wE plAE iUE (by omega)).mono ?_
  rintro e wF ⟨pU, rfl, sU, belF⟩
  have plAF := plAE.below belF (by omega)
  have plBF := plBE.below belF (by omega)
  have iTF := iTE.below belF
  have iUF := iUE.below belF
  have sTF := sT.below belF (Nat.le_refl _)
  have hF := belF.size
  go_wp2_with fail
  refine (joinZ_any (secOf wB.heap.size) _ _ _ pT pU wF sTF hF).mono ?_
  rintro e wG ⟨pJ, rfl, sJ, belG⟩
  have hG := belG.size
  have plAG := plAF.below belG (by omega)
  have plBG := plBF.below belG (by omega)
  have iTG := iTF.below belG
  have iUG := iUF.below belG
  have sUG := sU.below belG (Nat.le_refl _)
  have sJG : Seg wG (secOf wB.heap.size) wD.heap.size wG.heap.size (.pointer pJ) (lst (byteOf z0) 0 len0 ++ lst (byteOf z1) 0 len1) (.pointer none) :=
    (sJ.widen (by omega) (Nat.le_refl _)).append (sUG.widen (by omega) (by omega))
  have belWG : Below w.heap.size w wG := ((belWD.trans (belE.mono belWD.size)).trans (belF.mono (Nat.le_trans belWD.size hE))).trans (belG.mono (Nat.le_trans (Nat.le_trans belWD.size hE) hF))
  clear belWD belE belF belG plAD plAE plAF plB plBE plBF iTD iUD iTE iUE iTF iUF sT sU sTF sUG sJ
  go_wp2_with fail
  refine (build_any wC.heap.size _ _ aT len0 cT _ _ wG plBG iTG (by omega)).mono ?_
  rintro e wH ⟨qT, rfl, sTH, belH⟩
  have hH := belH.size
  have plAH := plAG.below belH (by omega)
  have plBH := plBG.below belH (by omega)
  have iTH := iTG.below belH
  have iUH := iUG.below belH
  have sJH := sJG.below belH (Nat.le_refl _)
  go_wp2_with fail
  refine (build_any wC.heap.size _ _ aU len1 cU _ _ wH plBH iUH (by omega)).mono ?_
  rintro e wI ⟨qU, rfl, sUI, belI⟩
  have hI := belI.size
  have plAI := plAH.below belI (by omega)
  have plBI := plBH.below belI (by omega)
  have iTI := iTH.below belI
  have iUI := iUH.below belI
  have sJI := sJH.below belI hH
  have sTI := sTH.below belI (Nat.le_refl _)
  have belWI : Below w.heap.size w wI := (belWG.trans (belH.mono belWG.size)).trans (belI.mono (Nat.le_trans belWG.size hH))
  clear belWG belH belI plAG plAH plBG plBH iTG iUG iTH iUH sJG sJH sTH
  go_wp2_with fail
  obtain ⟨T, hTd⟩ : ∃ T, T = lst (byteOf z0) 0 len0 := ⟨_, rfl⟩
  obtain ⟨U, hUd⟩ : ∃ U, U = lst (byteOf z1) 0 len1 := ⟨_, rfl⟩
  have lT : T.length ≤ 65536 := by rw [hTd, lst_length]; omega
  have lU : U.length ≤ 65536 := by rw [hUd, lst_length]; omega
  have mT : ∀ s ∈ T, s < 256 := by rw [hTd]; exact lst_mem iTI.byte 0 len0
  have mU : ∀ s ∈ U, s < 256 := by rw [hUd]; exact lst_mem iUI.byte 0 len1
  have mJ : ∀ s ∈ T ++ U, s < 256 := fun s hs => (List.mem_append.1 hs).elim (mT s) (mU s)
  have lJ : (T ++ U).length ≤ 131072 := by rw [List.length_append]; omega
  rw [← hTd] at sJI sTI
  rw [← hUd] at sJI sUI
  have HT := hide hTd
  have HU := hide hUd
  clear hTd hUd
  go_loopw [12] (fun i wr => ∃ r : Nat, r ≤ R ∧ i = .int .i64 r ∧ Pool wr wB.heap.size (fun i => r * tot T U i) (fun i => r * tot T U i) ∧ Pool wr wC.heap.size (fun i => r * tot T U i) (fun i => r * tot T U i) ∧ Tou2 wB.heap.size wC.heap.size wI wr) (fun i _ => R - (intOf i).toNat)
  case atStart => exact ⟨0, by omega, rfl, by simpa using plAI, by simpa using plBI, Tou2.refl _ _ _⟩
  case round =>
    obtain ⟨r, hr, rfl, pa, pb, tt⟩ := hrel
    by_cases hlt : r < R
    · have bd := tot_bound (r := r) (by omega) lT lU
      have bd1 : ∀ i, r * tot T U i + (T ++ U).length < 4611686018427387904 := fun i => by have := bd i; omega
      have bd2 : ∀ i, r * tot T U i + T.length < 4611686018427387904 := fun i => by have := bd i; omega
      have bd3 : ∀ i, r * tot T U i + cnt i T + U.length < 4611686018427387904 := fun i => by have := bd i; have := cnt_le i T; omega
      go_wp2_with fail
      refine (startZ_any _ _ _ _ _ _ pJ wr pa (tt.seg (by omega) (by omega) sJI) (by omega) mJ bd1).mono ?_
      rintro e w1 ⟨rfl, pa1, t1⟩
      have pb1 := t1.pool pb (by omega)
      have tt1 := tt.left t1
      clear pa pb tt t1
      go_wp2_with fail
      refine (completeZ_any _ _ _ _ _ _ pJ w1 pa1 (tt1.seg (by omega) (by omega) sJI) (by omega) mJ bd1).mono ?_
      rintro e w2 ⟨rfl, pa2, t2⟩
      have pb2 := t2.pool pb1 (by omega)
      have tt2 := tt1.left t2
      clear pa1 pb1 tt1 t2
      go_wp2_with fail
      refine (startZ_any _ _ _ _ _ _ qT w2 pb2 (tt2.seg (by omega) (by omega) sTI) (by omega) mT bd2).mono ?_
      rintro e w3 ⟨rfl, pb3, t3⟩
      have pa3 := t3.pool pa2 (by omega)
      have tt3 := tt2.right t3
      clear pa2 pb2 tt2 t3
      go_wp2_with fail
      refine (startZ_any _ _ _ _ _ _ qU w3 pb3 (tt3.seg (by omega) (by omega) sUI) (by omega) mU bd3).mono ?_
      rintro e w4 ⟨rfl, pb4, t4⟩
      have pa4 := t4.pool pa3 (by omega)
      have tt4 := tt3.right t4
      clear pa3 pb3 tt3 t4
      go_wp2_with fail
      refine (completeZ_any _ _ _ _ _ _ qT w4 pb4 (tt4.seg (by omega) (by omega) sTI) (by omega) mT bd2).mono ?_
      rintro e w5 ⟨rfl, pb5, t5⟩
      have pa5 := t5.pool pa4 (by omega)
      have tt5 := tt4.right t5
      clear pa4 pb4 tt4 t5
      go_wp2_with fail
      refine (completeZ_any _ _ _ _ _ _ qU w5 pb5 (tt5.seg (by omega) (by omega) sUI) (by omega) mU bd3).mono ?_
      rintro e w6 ⟨rfl, pb6, t6⟩
      have pa6 := t6.pool pa5 (by omega)
      have tt6 := tt5.right t6
      clear pa5 pb5 tt5 t6
      rw [tot_step] at pa6
      rw [tot_step2] at pb6
      go_wp2_with fail
      go_roundw
      case rel => exact ⟨r + 1, by omega, by go_num, pa6, pb6, tt6⟩
      case measure => simp [intOf]; omega
    · have hrR : r = R := by omega
      subst hrR
      have bd := tot_bound (r := r) (by omega) lT lU
      have bd1 : ∀ i, r * tot T U i + (T ++ U).length < 4611686018427387904 := fun i => by have := bd i; omega
      have bd2 : ∀ i, r * tot T U i + T.length < 4611686018427387904 := fun i => by have := bd i; omega
      have bd3 : ∀ i, r * tot T U i + cnt i T + U.length < 4611686018427387904 := fun i => by have := bd i; have := cnt_le i T; omega
      go_wp2_with fail
      refine (startZ_any _ _ _ _ _ _ pJ wr pa (tt.seg (by omega) (by omega) sJI) (by omega) mJ bd1).mono ?_
      rintro e w1 ⟨rfl, pa1, t1⟩
      have pb1 := t1.pool pb (by omega)
      have tt1 := tt.left t1
      clear pa pb tt t1
      go_wp2_with fail
      refine (startZ_any _ _ _ _ _ _ qT w1 pb1 (tt1.seg (by omega) (by omega) sTI) (by omega) mT bd2).mono ?_
      rintro e w3 ⟨rfl, pb3, t3⟩
      have pa3 := t3.pool pa1 (by omega)
      have tt3 := tt1.right t3
      clear pa1 pb1 tt1 t3
      go_wp2_with fail
      refine (startZ_any _ _ _ _ _ _ qU w3 pb3 (tt3.seg (by omega) (by omega) sUI) (by omega) mU bd3).mono ?_
      rintro e w4 ⟨rfl, pb4, t4⟩
      have pa4 := t4.pool pa3 (by omega)
      have tt4 := tt3.right t4
      clear pa3 pb3 tt3 t4
      rw [tot_step] at pa4
      rw [tot_step2] at pb4
      clear sJI sTI sUI plAI plBI bd bd1 bd2 bd3 mJ mT mU
      have hz37 := zero37
      go_wp2_with fail
      go_loopw [14] (fun i wr => ∃ k : Nat, k ≤ len0 ∧ i = .int .i64 k ∧ CntTo w4 wr (fun i => cnt i (lst (byteOf z0) 0 k))) (fun i _ => len0 - (intOf i).toNat)
      case atStart => exact ⟨0, by omega, rfl, CntTo.begin w4⟩
      case round =>
        obtain ⟨k, hk, rfl, hc⟩ := hrel
        by_cases hlt : k < len0
        · obtain ⟨n, hn⟩ : ∃ n, n = byteOf z0 k := ⟨_, rfl⟩
          obtain ⟨N, hN⟩ : ∃ N, N = cnt n (lst (byteOf z0) 0 k) := ⟨_, rfl⟩
          have hfk : n < 256 := by rw [hn]; exact iTI.byte k
          have hNb : N ≤ 65536 := by rw [hN]; have := cnt_le n (lst (byteOf z0) 0 k); rw [lst_length] at this; omega
          have hi0 := fun w' => iTI.at (c := cT) hlt w'
          have hc0 : wr.cell? ⟨w.heap.size, k, none⟩ = some (.int .u8 (n : Int)) := by
            rw [hn, hc.bel.cell (p := ⟨w.heap.size, k, none⟩) (by rw [tt4.size]; exact iTI.lt (by omega))]
            exact (tt4.idx iTI hT (fun h => by have := hT h; omega)).cell hlt
          have hi1 := fun w' => arr_at8 (b := w4.heap.size) hfk w'
          have hc1 : wr.cell? ⟨w4.heap.size, n, none⟩ = some (.int .u64 (N : Int)) := by rw [hN]; exact hc.row.cell hfk
          have hf1 := hc.row.frozen n
          have hst := hc.bump n
          rw [← hN] at hst
          have Hn := hide hn
          have HN := hide hN
          clear hn hN hc
          go_wp2_with fail
          go_roundw
          case rel =>
            refine ⟨k + 1, by omega, by go_num, ?_⟩
            rw [show (fun i => cnt i (lst (byteOf z0) 0 (k + 1))) = (fun i => if i = n then cnt i (lst (byteOf z0) 0 k) + 1 else cnt i (lst (byteOf z0) 0 k)) from by
              funext i; rw [lst_snoc, Nat.zero_add, ← Hn.out, cnt_snoc]]
            exact hst
          case measure => simp [intOf]; omega
        · have hk0 : k = len0 := by omega
          subst hk0
          have hcT : CntTo w4 wr (fun i => cnt i T) := by rw [HT.out]; exact hc
          clear hc
          go_wp2_with fail
          go_loopw [15] (fun i wr => ∃ j : Nat, j ≤ len1 ∧ i = .int .i64 j ∧ CntTo w4 wr (fun i => cnt i T + cnt i (lst (byteOf z1) 0 j))) (fun i _ => len1 - (intOf i).toNat)
          case atStart => exact ⟨0, by omega, rfl, by simpa [lst, cnt] using hcT⟩
          case round =>
            obtain ⟨j, hj, rfl, hc⟩ := hrel
            clear hcT
            by_cases hlt1 : j < len1
            · obtain ⟨n, hn⟩ : ∃ n, n = byteOf z1 j := ⟨_, rfl⟩
              obtain ⟨N, hN⟩ : ∃ N, N = cnt n T + cnt n (lst (byteOf z1) 0 j) := ⟨_, rfl⟩
              have hfk : n < 256 := by rw [hn]; exact iUI.byte j
              have hNb : N ≤ 131072 := by
                rw [hN]
                have a1 := cnt_le n (lst (byteOf z1) 0 j)
                have a2 := cnt_le n T
                rw [lst_length] at a1
                omega
              have hi0 := fun w' => iUI.at (c := cU) hlt1 w'
              have hc0 : wr.cell? ⟨wA.heap.size, j, none⟩ = some (.int .u8 (n : Int)) := by
                rw [hn, hc.bel.cell (p := ⟨wA.heap.size, j, none⟩) (by rw [tt4.size]; exact iUI.lt (by omega))]
                exact (tt4.idx iUI hU (fun h => by have := hU h; omega)).cell hlt1
              have hi1 := fun w' => arr_at8 (b := w4.heap.size) hfk w'
              have hc1 : wr.cell? ⟨w4.heap.size, n, none⟩ = some (.int .u64 (N : Int)) := by rw [hN]; exact hc.row.cell hfk
              have hf1 := hc.row.frozen n
              have hst := hc.bump n
              simp only [← hN] at hst
              have Hn := hide hn
              have HN := hide hN
              clear hn hN hc
              go_wp2_with fail
              go_roundw
              case rel =>
                refine ⟨j + 1, by omega, by go_num, ?_⟩
                rw [show (fun i => cnt i T + cnt i (lst (byteOf z1) 0 (j + 1))) = (fun i => if i = n then cnt i T + cnt i (lst (byteOf z1) 0 j) + 1 else cnt i T + cnt i (lst (byteOf z1) 0 j)) from by
                  funext i; rw [lst_snoc, Nat.zero_add, ← Hn.out, cnt_snoc]; split <;> omega]
                exact hst
              case measure => simp [intOf]; omega
            · have hj0 : j = len1 := by omega
              subst hj0
              have hcA : CntTo w4 wr (tot T U) := by
                have e : (tot T U) = (fun i => cnt i T + cnt i (lst (byteOf z1) 0 j)) := by funext i; rw [← HU.out]; rfl
                rw [e]; exact hc
              clear hc
              have paR := pa4.below hcA.bel (by rw [tt4.size]; omega)
              have pbR := pb4.below hcA.bel (by rw [tt4.size]; omega)
              have belR : Below w.heap.size w wr := (belWI.trans (tt4.below (by omega) (by omega))).trans (hcA.bel.mono (by rw [tt4.size]; exact belWI.size))
              clear pa4 pb4 iTI iUI belWI
              go_wp2_with fail
              go_loop [17] (fun i => ∃ n : Nat, n ≤ 256 ∧ i = .int .i64 n) (fun i => 256 - (intOf i).toNat)
              case atStart => exact ⟨0, by omega, rfl⟩
              case round =>
                obtain ⟨n, hn, rfl⟩ := hrel
                by_cases hlt2 : n < 256
                · obtain ⟨K, hK⟩ : ∃ K, K = tot T U n := ⟨_, rfl⟩
                  obtain ⟨W1, hW1⟩ : ∃ W, W = (r + 1) * K := ⟨_, rfl⟩
                  obtain ⟨W2, hW2⟩ : ∃ W, W = r * K := ⟨_, rfl⟩
                  have hKb : K ≤ 131072 := by rw [hK]; exact tot_le lT lU n
                  have b1 : W1 ≤ 2228224 := by rw [hW1]; exact Nat.le_trans (Nat.mul_le_mul (show r + 1 ≤ 17 by omega) hKb) (by omega)
                  have b2 : W2 ≤ 2228224 := by rw [hW2]; exact Nat.le_trans (Nat.mul_le_mul (show r ≤ 17 by omega) hKb) (by omega)
                  have m1 : IntKind.u64.wrap ((K : Int) * ((r : Int) + 1)) = (W1 : Int) := by
                    rw [show (K : Int) * ((r : Int) + 1) = (W1 : Int) from by rw [hW1, Nat.mul_comm]; simp]
                    simp [IntKind.wrap, IntKind.bits, IntKind.signed]; omega
                  have m2 : IntKind.u64.wrap ((K : Int) * (r : Int)) = (W2 : Int) := by
                    rw [show (K : Int) * (r : Int) = (W2 : Int) from by rw [hW2, Nat.mul_comm]; simp]
                    simp [IntKind.wrap, IntKind.bits, IntKind.signed]; omega
                  have i1 := fun w' => arr_at64 (b := w4.heap.size) hlt2 w'
                  have i2 := fun w' => pool_at64 (g := wB.heap.size) hlt2 w'
                  have i3 := fun w' => pool_at64 (g := wC.heap.size) hlt2 w'
                  have c1 : wr.cell? ⟨w4.heap.size, n, none⟩ = some (.int .u64 (K : Int)) := by rw [hK]; exact hcA.row.cell hlt2
                  have c2 : wr.cell? ⟨wB.heap.size, n, none⟩ = some (.pointer (some ⟨wB.heap.size + 1 + n, 0, none⟩)) := paR.top.cell hlt2
                  have c3 : wr.cell? ⟨wC.heap.size, n, none⟩ = some (.pointer (some ⟨wC.heap.size + 1 + n, 0, none⟩)) := pbR.top.cell hlt2
                  have s1 : wr.cell? ⟨wB.heap.size + 1 + n, 1, none⟩ = some (.int .u64 (W1 : Int)) := by rw [hW1, hK]; exact (paR.sec n hlt2).cell (i := 1) (by omega)
                  have s2 : wr.cell? ⟨wB.heap.size + 1 + n, 2, none⟩ = some (.int .u64 (W2 : Int)) := by rw [hW2, hK]; exact (paR.sec n hlt2).cell (i := 2) (by omega)
                  have s3 : wr.cell? ⟨wC.heap.size + 1 + n, 1, none⟩ = some (.int .u64 (W1 : Int)) := by rw [hW1, hK]; exact (pbR.sec n hlt2).cell (i := 1) (by omega)
                  have s4 : wr.cell? ⟨wC.heap.size + 1 + n, 2, none⟩ = some (.int .u64 (W2 : Int)) := by rw [hW2, hK]; exact (pbR.sec n hlt2).cell (i := 2) (by omega)
                  clear hK hW1 hW2
                  go_wp2_with fail
                  refine (starts_any _ _ _ s1).mono ?_
                  rintro e wx ⟨rfl, rfl⟩
                  go_wp2_with fail
                  refine (starts_any _ _ _ s3).mono ?_
                  rintro e wx ⟨rfl, rfl⟩
                  go_wp2_with fail
                  refine (completions_any _ _ _ s2).mono ?_
                  rintro e wx ⟨rfl, rfl⟩
                  go_wp2_with fail
                  refine (completions_any _ _ _ s4).mono ?_
                  rintro e wx ⟨rfl, rfl⟩
                  go_wp2_with fail
                  go_round
                  case rel => exact ⟨n + 1, by omega, by go_num⟩
                  case measure => simp [intOf]; omega
                · have hn0' : n = 256 := by omega
                  subst hn0'
                  go_wp2_with fail
                  go_ret
                  exact ⟨rfl, belR⟩

/-! ### THE ROW's STEP: WRITTEN OUT: LEAVE IT -/
set_option maxRecDepth 100000 in
theorem lifted (os : Os) (started : os.Started) (H : Type) (enc : TypeId × Value → H) :
    ReturnsInHanded {} Try.checked os 4 .any (Rows.fnTallyStartOfJoinIsStartOfPartsSpec.pre6 enc Try.prog Try.f4 Rows.fnTallyStartOfJoinIsStartOfPartsRow.domain false) (Rows.fnTallyStartOfJoinIsStartOfPartsSpec.post enc Try.prog Try.f4 false true false false) := by
  refine returnsInHanded_of_change (C := Try.checked) own started (by kernel_rfl) Try.func4
    (ChangeSpec.witness6 (enc := enc) (C := Try.checked) false ⟨#[], #[.slice none 0 0, .slice none 0 0, .int .u8 0], []⟩ 8 (by kernel_rfl) (by kernel_rfl) (by kernel_rfl) (by kernel_rfl)) ?_
  intro W base args ds gs before hval0 hW hcnd _
  have hval : ∀ (j : Nat) t v, Try.f4.params[j]? = some t → args[j]? = some v → Value.okWide Try.prog W .any base t v := hval0
  have hW' := hW
  obtain ⟨p, q, hA0, hV, rfl, hfz, hnd⟩ := hW
  have hA : DataW.TrodAll enc Try.prog W 0 (fun _ => true) true Try.f4.params.toList args.toList ds p := hA0
  rw [Try.params4] at hA hval
  obtain ⟨v0, vs0, d0, ds0, p0, q0, hargs, rfl, rfl, h0, r0⟩ := trodAll_cons hA
  obtain ⟨v1, vs1, d1, ds1, p1, q1, rfl, rfl, rfl, h1, r1⟩ := trodAll_cons r0
  obtain ⟨v2, vs2, d2, ds2, p2, q2, rfl, rfl, rfl, h2, r2⟩ := trodAll_cons r1
  obtain ⟨rfl, rfl, rfl⟩ := trodAll_nil r2
  obtain rfl : args = #[v0, v1, v2] := by cases args; simp_all
  obtain ⟨rfl, rfl⟩ := trodVars_none hV
  obtain ⟨a0, len0, cap0, rfl⟩ := okWide_slice Try.underlying22 (hval 0 22 v0 rfl rfl)
  have k0 := h0
  have lt0 : ∀ x ∈ p0, x.block < W.heap.size := by obtain ⟨m, hm⟩ := k0; exact DataW.trod_lt m _ _ _ hm
  obtain ⟨z0, w0⟩ : ∃ zs, IsRow .u8 W a0 len0 cap0 zs := by
    obtain ⟨fuel, hf⟩ := h0
    rcases open_ints Try.underlying22 Try.underlying5 (by kernel_rfl) hf with ⟨hcs, _⟩ | ⟨x, l, c, zs, hcs, _, hl, hm, hz, _, hcell, hwz⟩
    · simp [Value.cells] at hcs
      obtain ⟨rfl, rfl, rfl⟩ := hcs
      exact ⟨[], .inl ⟨rfl, rfl, rfl, rfl⟩⟩
    · simp [Value.cells] at hcs
      obtain ⟨rfl, rfl, rfl⟩ := hcs
      exact ⟨zs, .inr ⟨_, rfl, hl, hm, by simpa using hz, hcell, hwz⟩⟩
  obtain ⟨a1, len1, cap1, rfl⟩ := okWide_slice Try.underlying22 (hval 1 22 v1 rfl rfl)
  have k1 := h1
  have lt1 : ∀ x ∈ p1, x.block < W.heap.size := by obtain ⟨m, hm⟩ := k1; exact DataW.trod_lt m _ _ _ hm
  obtain ⟨z1, w1⟩ : ∃ zs, IsRow .u8 W a1 len1 cap1 zs := by
    obtain ⟨fuel, hf⟩ := h1
    rcases open_ints Try.underlying22 Try.underlying5 (by kernel_rfl) hf with ⟨hcs, _⟩ | ⟨x, l, c, zs, hcs, _, hl, hm, hz, _, hcell, hwz⟩
    · simp [Value.cells] at hcs
      obtain ⟨rfl, rfl, rfl⟩ := hcs
      exact ⟨[], .inl ⟨rfl, rfl, rfl, rfl⟩⟩
    · simp [Value.cells] at hcs
      obtain ⟨rfl, rfl, rfl⟩ := hcs
      exact ⟨zs, .inr ⟨_, rfl, hl, hm, by simpa using hz, hcell, hwz⟩⟩
  obtain ⟨a2, rfl, rfl, rfl, w2⟩ := open_int Try.underlying5 (hval 2 5 v2 rfl rfl) h2
  clear hA0 hval0
  refine (walk a0 len0 cap0 z0 a1 len1 cap1 z1 a2 W w0 w1 w2).mono fun e W' ⟨he, bel⟩ => ?_
  subst he
  exact ⟨_, rfl, _, _, _, [], _, [], hW', trodAll_mk1 (shut_bool Try.underlying4 _), (trodAll_cons_mk (Below.trod laidOut (by kernel_rfl) (of_decide_eq_true (by kernel_rfl)) k0 bel lt0) (trodAll_cons_mk (Below.trod laidOut (by kernel_rfl) (of_decide_eq_true (by kernel_rfl)) k1 bel lt1) (trodAll_cons_mk (shut_int Try.underlying5 w2) trodAll_mk0))), rfl, bel.frame _, fun h => by cases h⟩

theorem over : Rows.fnTallyStartOfJoinIsStartOfPartsRow.holds Try.pinned (OpenSpec.ofChange Rows.fnTallyStartOfJoinIsStartOfPartsSpec) :=
  OpenClaim.holds_of_wide 4 Try.f4 rfl rfl rfl rfl rfl rfl rfl ⟨rfl, rfl, rfl, rfl, rfl⟩ rfl rfl rfl rfl rfl (by kernel_rfl) Try.func4 (by kernel_rfl)
    (of_decide_eq_true (by kernel_rfl)) (by unfold Func.isWrapper; first | (rw [if_pos (by decide +kernel)]; kernel_rfl) | (rw [if_neg (by decide +kernel)]; exact ⟨rfl, rfl⟩))
    (fun os started H enc _ => lifted os started H enc)

/-- ████ THE STATEMENT ████ -/
theorem proved : Rows.FnTallyStartOfJoinIsStartOfPartsSaid := over
end Go.Proofs.Qxb6002450a.fnTallyStartOfJoinIsStartOfParts
