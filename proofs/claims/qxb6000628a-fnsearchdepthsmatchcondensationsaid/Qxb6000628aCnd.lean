/-
  zzReps (func 27), zzCondensedDepths (func 28): the walks.
-/
import Derived.Test.Qxb6000628aCond
set_option linter.unusedVariables false
namespace Go.Proofs.Qxb6000628a
open Go.RowKit

structure RP (W w : World) (ef et : Nat → Nat) (k u : Nat) (rf : Nat → Nat) : Prop where
  bel : Below W.heap.size W w
  sz : w.heap.size = W.heap.size + 1
  row : Rn w W.heap.size 256 rf
  lo : ∀ u', u' < u → IsRep ef et k u' (rf u')

theorem RP.start (W : World) (ef et : Nat → Nat) (k : Nat) : RP W (W.alloc (.cells (madeCells #[.int .i64 0] 256) 3)) ef et k 0 (fun _ => 0) :=
  ⟨(Below.refl _ _).alloc (Nat.le_refl _) _, by simp, Rn.made W 256, fun u hu => absurd hu (Nat.not_lt_zero _)⟩

theorem RP.put {W w : World} {ef et : Nat → Nat} {k u : Nat} {rf : Nat → Nat} (h : RP W w ef et k u rf) (v : Nat) : RP W (w.setCell ⟨W.heap.size, u, none⟩ (.int .i64 (v : Int))) ef et k u (upd rf u v) :=
  ⟨h.bel.setCell (Nat.le_refl _) _, by simpa using h.sz, h.row.set u v _ rfl, fun u' hu => by rw [upd_other _ _ (by omega)]; exact h.lo u' hu⟩

theorem RP.next {W w : World} {ef et : Nat → Nat} {k u : Nat} {rf : Nat → Nat} (h : RP W w ef et k u rf) (hu : IsRep ef et k u (rf u)) : RP W w ef et k (u + 1) rf :=
  ⟨h.bel, h.sz, h.row, fun u' hu' => by
    by_cases e : u' = u
    · subst e; exact hu
    · exact h.lo u' (by omega)⟩

set_option maxHeartbeats 4000000 in
set_option maxRecDepth 100000 in
theorem reps27 (W : World) (g k : Nat) (ef et : Nat → Nat) (rb : Nat → Bool) (hrow : W.rowIs g 4 65536 (fun x => .bool (rb x))) (hrb : ∀ s t, s < 256 → t < 256 → (rb (s * 256 + t) = true ↔ Reach (nb ef et k) s t)) :
    Calls Try.prog 27 #[.slice (some ⟨g, 0, none⟩) 65536 65536] W fun e w' => ∃ gr rep, e = .returned (.slice (some ⟨gr, 0, none⟩) 256 256) ∧ Rn w' gr 256 rep ∧ Rp ef et k rep ∧ Below W.heap.size W w' := by
  have m2 := run_make256
  have Hrow := hide hrow
  have Hrb := hide hrb
  clear hrow hrb
  go_enter Try.func27, Try.ntmps27
  go_upto_region 2 with fail
  have R0 := hide (RP.start W ef et k)
  generalize W.alloc (.cells (madeCells #[.int .i64 0] 256) 3) = w0 at *
  go_wp2_with fail
  go_loopw [4] (fun ii wr => ∃ u : Nat, u ≤ 256 ∧ ii = .int .i64 u ∧ ∃ rf, Hid (RP W wr ef et k u rf)) (fun ii _ => 256 - (intOf ii).toNat)
  case atStart => exact ⟨0, by omega, rfl, _, R0.out⟩
  case round =>
    clear R0
    obtain ⟨u, hu, rfl, rf, R⟩ := hrel
    by_cases hlt : u < 256
    · have z1 := R.out.row.cell (i := u) hlt
      have z2 := R.out.row.frozen u
      have R1 := hide (R.out.put u)
      clear R
      go_upto_region 6 with fail
      clear z1 z2
      generalize wr.setCell ⟨W.heap.size, u, none⟩ (.int .i64 (u : Int)) = w2 at *
      go_wp2_with fail
      go_loopw [5] (fun ii wr => ∃ v : Nat, v ≤ u ∧ ii = .int .i64 v ∧ ∃ rf, Hid (RP W wr ef et k u rf) ∧ Hid (rf u = u) ∧ Hid (∀ v', v' < v → ¬ Mut ef et k u v')) (fun ii _ => u - (intOf ii).toNat)
      case atStart => exact ⟨0, by omega, rfl, _, R1.out, upd_same _ _ _, fun v hv => absurd hv (Nat.not_lt_zero _)⟩
      case round =>
        clear R1
        obtain ⟨v, hv, rfl, rf, R, hru, hn⟩ := hrel
        by_cases hlt2 : v < u
        · have hrw := row_below Hrow.out (R.out.bel.mono (Nat.le_refl _))
          have x1 := idx48 g (u * 256 + v) (by omega) ((u : Int) * 256 + (v : Int)) (by omega)
          have x2 := idx48 g (v * 256 + u) (by omega) ((v : Int) * 256 + (u : Int)) (by omega)
          have y1 := hrw.cell (i := u * 256 + v) (by omega)
          have y2 := hrw.cell (i := v * 256 + u) (by omega)
          have q1 := Hrb.out u v (by omega) (by omega)
          have q2 := Hrb.out v u (by omega) (by omega)
          clear hrw
          cases b1 : rb (u * 256 + v) with
          | false =>
            rw [b1] at y1 q1
            have hnm : ¬ Mut ef et k u v := fun h => by have := q1.2 h.1; cases this
            have Hnm := hide hnm
            clear hnm q1 q2 b1
            go_wp2_with fail
            go_roundw
            case rel => exact ⟨v + 1, by omega, by go_num, rf, R.out, hru.out, fun v' hv' => by
                by_cases e : v' = v
                · rw [e]; exact Hnm.out
                · exact hn.out v' (by omega)⟩
            case measure => simp [intOf]; omega
          | true =>
            rw [b1] at y1 q1
            cases b2 : rb (v * 256 + u) with
            | false =>
              rw [b2] at y2 q2
              have hnm : ¬ Mut ef et k u v := fun h => by have := q2.2 h.2; cases this
              have Hnm := hide hnm
              clear hnm q1 q2 b1 b2
              go_wp2_with fail
              go_roundw
              case rel => exact ⟨v + 1, by omega, by go_num, rf, R.out, hru.out, fun v' hv' => by
                  by_cases e : v' = v
                  · rw [e]; exact Hnm.out
                  · exact hn.out v' (by omega)⟩
              case measure => simp [intOf]; omega
            | true =>
              rw [b2] at y2 q2
              have hm : IsRep ef et k u v := ⟨by omega, ⟨q1.1 rfl, q2.1 rfl⟩, hn.out⟩
              have R2 : Hid (RP W (wr.setCell ⟨W.heap.size, u, none⟩ (.int .i64 (v : Int))) ef et k (u + 1) (upd rf u v)) := (R.out.put v).next (by rw [upd_same]; exact hm)
              have z1 := R.out.row.cell (i := u) hlt
              have z2 := R.out.row.frozen u
              clear hm q1 q2 b1 b2 R hn hru
              go_wp2_with fail
              go_roundw
              case rel => exact ⟨u + 1, by omega, by go_num, _, R2.out⟩
              case measure => simp [intOf]; omega
        · obtain rfl : v = u := by omega
          have R2 : Hid (RP W wr ef et k (v + 1) rf) := R.out.next (by rw [hru.out]; exact ⟨Nat.le_refl _, Mut.refl _ _ _ _, hn.out⟩)
          clear R hn hru
          go_wp2_with fail
          go_roundw
          case rel => exact ⟨v + 1, by omega, by go_num, _, R2.out⟩
          case measure => simp [intOf]; omega
    · obtain rfl : u = 256 := by omega
      go_wp2_with fail
      go_ret
      exact ⟨_, rf, rfl, R.out.row, fun u hu => R.out.lo u hu, R.out.bel⟩

/-- The rounds' two rows. -/
structure RK (W w : World) (df bf : Nat → Nat) : Prop where
  bel : Below W.heap.size W w
  sz : w.heap.size = W.heap.size + 2
  dp : Rn w W.heap.size 256 df
  bs : Rn w (W.heap.size + 1) 256 bf

theorem RK.start0 (W : World) : RP W (W.alloc (.cells (madeCells #[.int .i64 0] 256) 3)) (fun _ => 0) (fun _ => 0) 0 0 (fun _ => 0) := RP.start W _ _ _

theorem RK.start {W w : World} (h : RP W w (fun _ => 0) (fun _ => 0) 0 0 (fun _ => 0)) : RK W (w.alloc (.cells (madeCells #[.int .i64 0] 256) 3)) (fun _ => 0) (fun _ => 0) := by
  have h2 := Rn.made w 256
  rw [h.sz] at h2
  have hs := h.sz
  exact ⟨h.bel.alloc (by omega) _, by simp [hs], h.row.alloc _, h2⟩

theorem RK.setD {W w : World} {df bf : Nat → Nat} (h : RK W w df bf) (i v : Nat) (z : Int) (hz : z = (v : Int)) : RK W (w.setCell ⟨W.heap.size, i, none⟩ (.int .i64 z)) (upd df i v) bf :=
  ⟨h.bel.setCell (Nat.le_refl _) _, by simpa using h.sz, h.dp.set i v z hz, h.bs.other (show W.heap.size + 1 ≠ W.heap.size by omega) _⟩

theorem RK.setB {W w : World} {df bf : Nat → Nat} (h : RK W w df bf) (i v : Nat) (z : Int) (hz : z = (v : Int)) : RK W (w.setCell ⟨W.heap.size + 1, i, none⟩ (.int .i64 z)) df (upd bf i v) :=
  ⟨h.bel.setCell (show W.heap.size ≤ W.heap.size + 1 by omega) _, by simpa using h.sz, h.dp.other (show W.heap.size ≠ W.heap.size + 1 by omega) _, h.bs.set i v z hz⟩

theorem RK.drewN {W w : World} {df bf : Nat → Nat} (h : RK W w df bf) (n : Nat) : RK W (w.drewN n) df bf := ⟨⟨h.bel.os, h.bel.tape, h.bel.output, h.bel.size, h.bel.block⟩, h.sz, h.dp, h.bs⟩

theorem RK.congr {W w : World} {df bf df' bf' : Nat → Nat} (h : RK W w df bf) (h1 : ∀ i, i < 256 → df i = df' i) (h2 : ∀ i, i < 256 → bf i = bf' i) : RK W w df' bf' := ⟨h.bel, h.sz, h.dp.congr h1, h.bs.congr h2⟩

def mix (f g : Nat → Nat) (u j : Nat) : Nat := if j < u then f j else g j

theorem mix_step (f g : Nat → Nat) (u j : Nat) : upd (mix f g u) u (f u) j = mix f g (u + 1) j := by
  by_cases e : j = u
  · subst e; rw [upd_same]; unfold mix; rw [if_pos (by omega)]
  · rw [upd_other _ _ e]
    unfold mix
    by_cases h : j < u
    · rw [if_pos h, if_pos (by omega)]
    · rw [if_neg h, if_neg (by omega)]

theorem mix_same (f g : Nat → Nat) (u j : Nat) (h : f u = g u) : mix f g u j = mix f g (u + 1) j := by
  rw [← mix_step]
  by_cases e : j = u
  · subst e; rw [upd_same]; unfold mix; rw [if_neg (by omega), h]
  · rw [upd_other _ _ e]

theorem bst_set {ef et rep D : Nat → Nat} {j c : Nat} (h1 : rep (ef j) ≠ rep (et j)) (h2 : bst ef et rep D (rep (ef j)) j < D (et j) + 1) : upd (fun c => bst ef et rep D c j) (rep (ef j)) (D (et j) + 1) c = bst ef et rep D c (j + 1) := by
  simp only [bst]
  by_cases e : c = rep (ef j)
  · subst e
    rw [upd_same, if_pos ⟨h1, rfl⟩, Nat.max_eq_right (by omega)]
  · rw [upd_other _ _ e, if_neg (fun h => e h.2.symm)]

theorem bst_keep1 {ef et rep D : Nat → Nat} {j c : Nat} (h1 : rep (ef j) = rep (et j)) : bst ef et rep D c j = bst ef et rep D c (j + 1) := by
  simp only [bst]
  rw [if_neg (fun h => h.1 h1)]

theorem bst_keep2 {ef et rep D : Nat → Nat} {j c : Nat} (h2 : ¬ bst ef et rep D (rep (ef j)) j < D (et j) + 1) : bst ef et rep D c j = bst ef et rep D c (j + 1) := by
  simp only [bst]
  split
  · next h =>
    rw [← h.2, Nat.max_eq_left (by omega)]
  · rfl

/-- What zzCondensedDepths answers. -/
def Cdd (W w' : World) (e : Ending) (ef et rep : Nat → Nat) (k : Nat) : Prop := ∃ (gd r : Nat) (D : Nat → Nat), e = .returned (.slice (some ⟨gd, 0, none⟩) 256 256) ∧ Rn w' gd 256 D ∧ (∀ u, u < 256 → D u = rnd ef et rep k r u) ∧ (r = 300 ∨ ∀ u, u < 256 → rnd ef et rep k (r + 1) u = rnd ef et rep k r u) ∧ r ≤ 300 ∧ Below W.heap.size W w'

set_option maxHeartbeats 4000000 in
set_option maxRecDepth 100000 in
theorem cond28 (W : World) (g1 c1 g2 c2 gr k : Nat) (ef et rep : Nat → Nat) (h1 : In3 W g1 k ef) (h2 : In3 W g2 k et) (h3 : Rn W gr 256 rep) (hr : ∀ u, u < 256 → rep u < 256) (hk : k ≤ 4096) :
    Calls Try.prog 28 #[.slice (some ⟨g1, 0, none⟩) k c1, .slice (some ⟨g2, 0, none⟩) k c2, .slice (some ⟨gr, 0, none⟩) 256 256] W fun e w' => Cdd W w' e ef et rep k := by
  have m2 := run_make256
  have H1 := hide h1
  have H2 := hide h2
  have H3 := hide h3
  have Hr := hide hr
  have b1 := h1.blk
  have b2 := h2.blk
  have b3 := h3.lt
  clear h1 h2 h3 hr
  go_enter Try.func28, Try.ntmps28
  go_upto_region 2 with fail
  have R0 := hide (RK.start0 W)
  have hs0 := R0.out.sz
  generalize W.alloc (.cells (madeCells #[.int .i64 0] 256) 3) = w0 at *
  have R1 := hide (RK.start R0.out)
  clear R0
  go_upto_region 3 with fail
  generalize w0.alloc (.cells (madeCells #[.int .i64 0] 256) 3) = w1 at *
  clear hs0
  go_wp2_with fail
  go_loopw [9] (fun ii wr => ∃ r : Nat, r ≤ 300 ∧ ii = .int .i64 r ∧ ∃ bf, Hid (RK W wr (rnd ef et rep k r) bf)) (fun ii _ => 300 - (intOf ii).toNat)
  case atStart => exact ⟨0, by omega, rfl, _, R1.out.congr (fun _ _ => rfl) (fun _ _ => rfl)⟩
  case round =>
    clear R1
    obtain ⟨r, hr, rfl, bf, R⟩ := hrel
    by_cases hlt : r < 300
    · have hD : Hid (∀ u, rnd ef et rep k r u ≤ r) := fun u => rnd_le ef et rep k r u
      go_wp2_with fail
      go_loopw [10] (fun ii wr => ∃ c : Nat, c ≤ 256 ∧ ii = .int .i64 c ∧ ∃ bf, Hid (RK W wr (rnd ef et rep k r) bf) ∧ Hid (∀ c', c' < c → bf c' = 0)) (fun ii _ => 256 - (intOf ii).toNat)
      case atStart => exact ⟨0, by omega, rfl, _, R.out, fun c hc => absurd hc (Nat.not_lt_zero _)⟩
      case round =>
        clear R
        obtain ⟨c, hc, rfl, bf, R, hz⟩ := hrel
        by_cases hlt2 : c < 256
        · have z1 := R.out.bs.cell (i := c) hlt2
          have z2 := R.out.bs.frozen c
          have R2 := hide (R.out.setB c 0 0 rfl)
          clear R
          go_wp2_with fail
          go_roundw
          case rel => exact ⟨c + 1, by omega, by go_num, _, R2.out, fun c' hc' => by
              by_cases e : c' = c
              · rw [e]; exact upd_same _ _ _
              · rw [upd_other _ _ e]; exact hz.out c' (by omega)⟩
          case measure => simp [intOf]; omega
        · obtain rfl : c = 256 := by omega
          have R2 : Hid (RK W wr (rnd ef et rep k r) (fun c => bst ef et rep (rnd ef et rep k r) c 0)) := R.out.congr (fun _ _ => rfl) (fun c hc => hz.out c hc)
          clear R hz
          go_wp2_with fail
          go_loopw [11] (fun ii wr => ∃ j : Nat, j ≤ k ∧ ii = .int .i64 j ∧ Hid (RK W wr (rnd ef et rep k r) (fun c => bst ef et rep (rnd ef et rep k r) c j))) (fun ii _ => k - (intOf ii).toNat)
          case atStart => exact ⟨0, by omega, rfl, R2.out⟩
          case round =>
            clear R2
            obtain ⟨j, hj, rfl, R⟩ := hrel
            by_cases hlt3 : j < k
            · have y1 := (H1.out.below R.out.bel b1).cell j hlt3
              have y2 := (H2.out.below R.out.bel b2).cell j hlt3
              have t1 := H1.out.lt j
              have t2 := H2.out.lt j
              have hrw := H3.out.of_block (R.out.bel.block _ b3)
              have y3 := hrw.cell (i := ef j) t1
              have y4 := hrw.cell (i := et j) t2
              have t3 := Hr.out (ef j) t1
              have t4 := Hr.out (et j) t2
              clear hrw
              by_cases hre : rep (ef j) = rep (et j)
              · have hre' : (rep (ef j) : Int) = (rep (et j) : Int) := by omega
                have hb : Hid (∀ c, bst ef et rep (rnd ef et rep k r) c j = bst ef et rep (rnd ef et rep k r) c (j + 1)) := fun c => bst_keep1 hre
                go_upto_region 13 with fail
                go_quiet (fail)
                have R3 : Hid (RK W (wr.drewN nq) (rnd ef et rep k r) (fun c => bst ef et rep (rnd ef et rep k r) c (j + 1))) := (R.out.drewN nq).congr (fun _ _ => rfl) (fun c _ => hb.out c)
                clear R y1 y2 y3 y4
                generalize wr.drewN nq = w5 at *
                go_wp2_with fail
                go_roundw
                case rel => exact ⟨j + 1, by omega, by go_num, R3.out⟩
                case measure => simp [intOf]; omega
              · have hre' : ¬ (rep (ef j) : Int) = (rep (et j) : Int) := by omega
                go_upto_region 13 with fail
                go_quiet (fail)
                have R3 := hide (R.out.drewN nq)
                have yy1 : (wr.drewN nq).cell? ⟨g1, j, none⟩ = some (.int .i64 (ef j : Int)) := y1
                have yy2 : (wr.drewN nq).cell? ⟨g2, j, none⟩ = some (.int .i64 (et j : Int)) := y2
                have yy3 : (wr.drewN nq).cell? ⟨gr, ef j, none⟩ = some (.int .i64 (rep (ef j) : Int)) := y3
                have hv := hD.out (et j)
                have z1 := R3.out.dp.cell (i := et j) t2
                have z2 := R3.out.bs.cell (i := rep (ef j)) t3
                have z3 := R3.out.bs.frozen (rep (ef j))
                clear R y1 y2 y3 y4
                generalize wr.drewN nq = w5 at *
                obtain ⟨B, hB⟩ : ∃ B, bst ef et rep (rnd ef et rep k r) (rep (ef j)) j = B := ⟨_, rfl⟩
                obtain ⟨V, hV⟩ : ∃ V, rnd ef et rep k r (et j) = V := ⟨_, rfl⟩
                rw [hB] at z2
                rw [hV] at z1 hv
                by_cases hlt4 : B < V + 1
                · have hcmp : (B : Int) < (V : Int) + 1 := by omega
                  have R4 : Hid (RK W (w5.setCell ⟨W.heap.size + 1, rep (ef j), none⟩ (.int .i64 ((V : Int) + 1))) (rnd ef et rep k r) (fun c => bst ef et rep (rnd ef et rep k r) c (j + 1))) :=
                    (R3.out.setB (rep (ef j)) (rnd ef et rep k r (et j) + 1) _ (by rw [hV]; omega)).congr (fun _ _ => rfl) (fun c _ => bst_set hre (by rw [hB, hV]; exact hlt4))
                  clear R3 hB hV
                  go_wp2_with fail
                  go_roundw
                  case rel => exact ⟨j + 1, by omega, by go_num, R4.out⟩
                  case measure => simp [intOf]; omega
                · have hcmp : ¬ (B : Int) < (V : Int) + 1 := by omega
                  have R4 : Hid (RK W w5 (rnd ef et rep k r) (fun c => bst ef et rep (rnd ef et rep k r) c (j + 1))) :=
                    R3.out.congr (fun _ _ => rfl) (fun c _ => bst_keep2 (by rw [hB, hV]; exact hlt4))
                  clear R3 hB hV
                  go_wp2_with fail
                  go_roundw
                  case rel => exact ⟨j + 1, by omega, by go_num, R4.out⟩
                  case measure => simp [intOf]; omega
            · obtain rfl : j = k := by omega
              have R3 : Hid (RK W wr (mix (rnd ef et rep j (r + 1)) (rnd ef et rep j r) 0) (fun c => bst ef et rep (rnd ef et rep j r) c j)) := R.out.congr (fun i _ => by unfold mix; rw [if_neg (by omega)]) (fun _ _ => rfl)
              clear R
              go_wp2_with fail
              go_loopw [13, 14] (fun bb ii wr => ∃ (b : Bool) (u : Nat), u ≤ 256 ∧ bb = .bool b ∧ ii = .int .i64 u ∧ Hid (b = false → ∀ u', u' < u → rnd ef et rep j (r + 1) u' = rnd ef et rep j r u') ∧ Hid (RK W wr (mix (rnd ef et rep j (r + 1)) (rnd ef et rep j r) u) (fun c => bst ef et rep (rnd ef et rep j r) c j))) (fun _ ii _ => 256 - (intOf ii).toNat)
              case atStart => exact ⟨false, 0, by omega, rfl, rfl, fun _ u hu => absurd hu (Nat.not_lt_zero _), R3.out⟩
              case round =>
                clear R3
                obtain ⟨b, u, hu, rfl, rfl, hb, R⟩ := hrel
                by_cases hlt5 : u < 256
                · have hrw := H3.out.of_block (R.out.bel.block _ b3)
                  have y3 := hrw.cell (i := u) hlt5
                  have t3 := Hr.out u hlt5
                  have z2 := R.out.bs.cell (i := rep u) t3
                  obtain ⟨V, hV⟩ : ∃ V, bst ef et rep (rnd ef et rep j r) (rep u) j = V := ⟨_, rfl⟩
                  obtain ⟨V0, hV0⟩ : ∃ V0, rnd ef et rep j r u = V0 := ⟨_, rfl⟩
                  have z1 := R.out.dp.cell (i := u) hlt5
                  rw [hV] at z2
                  have hm0 : mix (rnd ef et rep j (r + 1)) (rnd ef et rep j r) u u = V0 := by unfold mix; rw [if_neg (by omega), hV0]
                  rw [hm0] at z1
                  have z3 := R.out.dp.frozen u
                  have hV1 : rnd ef et rep j (r + 1) u = V := hV
                  clear hrw hm0
                  by_cases hne : V = V0
                  · have hne' : (V : Int) = (V0 : Int) := by omega
                    have R4 : Hid (RK W wr (mix (rnd ef et rep j (r + 1)) (rnd ef et rep j r) (u + 1)) (fun c => bst ef et rep (rnd ef et rep j r) c j)) := R.out.congr (fun i _ => mix_same _ _ _ _ (by rw [hV1, hV0]; exact hne)) (fun _ _ => rfl)
                    have hb2 : Hid (b = false → ∀ u', u' < u + 1 → rnd ef et rep j (r + 1) u' = rnd ef et rep j r u') := fun h u' hu' => by
                      by_cases e : u' = u
                      · rw [e, hV1, hV0]; exact hne
                      · exact hb.out h u' (by omega)
                    clear R hb hV hV0 hV1
                    go_wp2_with fail
                    go_roundw
                    case rel => exact ⟨b, u + 1, by omega, rfl, by go_num, hb2.out, R4.out⟩
                    case measure => simp [intOf]; omega
                  · have hne' : ¬ (V : Int) = (V0 : Int) := by omega
                    have R4 : Hid (RK W (wr.setCell ⟨W.heap.size, u, none⟩ (.int .i64 (V : Int))) (mix (rnd ef et rep j (r + 1)) (rnd ef et rep j r) (u + 1)) (fun c => bst ef et rep (rnd ef et rep j r) c j)) :=
                      (R.out.setD u V _ rfl).congr (fun i _ => by rw [← hV1]; exact mix_step _ _ _ _) (fun _ _ => rfl)
                    clear R hb hV hV0 hV1
                    go_wp2_with fail
                    go_roundw
                    case rel => exact ⟨true, u + 1, by omega, rfl, by go_num, fun h => (by cases h), R4.out⟩
                    case measure => simp [intOf]; omega
                · obtain rfl : u = 256 := by omega
                  have R4 : Hid (RK W wr (rnd ef et rep j (r + 1)) (fun c => bst ef et rep (rnd ef et rep j r) c j)) := R.out.congr (fun i hi => by unfold mix; rw [if_pos hi]) (fun _ _ => rfl)
                  clear R
                  cases b with
                  | true =>
                    go_wp2_with fail
                    go_roundw
                    case rel => exact ⟨r + 1, by omega, by go_num, _, R4.out⟩
                    case measure => simp [intOf]; omega
                  | false =>
                    have hb2 := hide (hb.out rfl)
                    clear hb
                    go_wp2_with fail
                    go_ret
                    exact ⟨_, r, _, rfl, R4.out.dp, fun u hu => hb2.out u hu, .inr (fun u hu => hb2.out u hu), by omega, R4.out.bel⟩
    · obtain rfl : r = 300 := by omega
      go_wp2_with fail
      go_ret
      exact ⟨_, 300, _, rfl, R.out.dp, fun u hu => rfl, .inl rfl, by omega, R.out.bel⟩

end Go.Proofs.Qxb6000628a
