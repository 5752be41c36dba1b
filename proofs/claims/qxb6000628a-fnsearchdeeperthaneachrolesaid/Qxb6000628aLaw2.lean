/-
  FnSearchDeeperThanEachRole (func 6): the walk.
-/
import Derived.Test.Qxb6000628aLw
set_option linter.unusedVariables false
namespace Go.Proofs.Qxb6000628a
open Go.RowKit

set_option maxHeartbeats 8000000 in
set_option maxRecDepth 100000 in
theorem law2 (a0 : Option Addr) (len0 cap0 : Nat) (z0 : List Int) (a1 : Option Addr) (len1 cap1 : Nat) (z1 : List Int) (a2 : Option Addr) (len2 cap2 : Nat) (z2 : List Int) (w : World) (w0 : IsU8 w a0 len0 cap0 z0) (w1 : IsU8 w a1 len1 cap1 z1) (w2 : IsU8 w a2 len2 cap2 z2) :
    Calls Try.prog 6 #[.slice a0 len0 cap0, .slice a1 len1 cap1, .slice a2 len2 cap2] w fun e w' => e = .returned (.bool true) ∧ Below w.heap.size w w' := by
  obtain ⟨⟨ad0, f0, u0⟩, n0⟩ := w0.in
  obtain ⟨⟨ad1, f1, u1⟩, n1⟩ := w1.in
  obtain ⟨⟨ad2, f2, u2⟩, n2⟩ := w2.in
  clear w0 w1 w2
  have l0 := u0.len
  have l1 := u1.len
  have l2 := u2.len
  have U0 := hide u0
  have U1 := hide u1
  have U2 := hide u2
  have N0 := hide n0
  have N1 := hide n1
  have N2 := hide n2
  clear u0 u1 u2 n0 n1 n2
  go_enter Try.func6, Try.ntmps6
  go_wp2_with fail
  refine (bytes31 _ _ _ _ _ _ _ _ _ _ l0 l1 l2).mono ?_
  rintro e wx ⟨⟨b, rfl⟩, rfl⟩
  cases b with
  | false =>
    go_wp2_with fail
    go_ret
    exact ⟨rfl, Below.refl _ _⟩
  | true =>
  by_cases h0 : 4096 < len0
  · go_wp2_with fail
    go_ret
    exact ⟨rfl, Below.refl _ _⟩
  by_cases h1 : 4096 < len1
  · go_wp2_with fail
    go_ret
    exact ⟨rfl, Below.refl _ _⟩
  by_cases h2 : 4096 < len2
  · go_wp2_with fail
    go_ret
    exact ⟨rfl, Below.refl _ _⟩
  have d0 : decide ((4096 : Int) < (len0 : Int)) = false := by simp; omega
  have d1 : decide ((4096 : Int) < (len1 : Int)) = false := by simp; omega
  have d2 : decide ((4096 : Int) < (len2 : Int)) = false := by simp; omega
  have d3 : ¬ (1048576 : Int) < (len0 : Int) + (len1 : Int) + (len2 : Int) := by omega
  by_cases h3 : len0 = len1
  case neg =>
    have h3' : ¬ (len0 : Int) = (len1 : Int) := by omega
    go_wp2_with fail
    go_ret
    exact ⟨rfl, Below.refl _ _⟩
  subst h3
  go_upto_region 9 with fail
  go_upto_region 10 with (go_at_call 23; refine (clone23 _ _ _ _ _ _ U0.out (by omega) N0.out).mono ?_; rintro e wa ⟨X, cX, adX, rfl, sX, belX⟩)
  have HX := hide sX
  have HBX := hide belX
  have U1 : Hid (U8In wa a1 len0 cap1 ad1 f1) := U1.out.below belX
  have U2 : Hid (U8In wa a2 len2 cap2 ad2 f2) := U2.out.below belX
  clear sX belX U0
  go_upto_region 11 with (go_at_call 23; refine (clone23 _ _ _ _ _ _ U1.out (by omega) N1.out).mono ?_; rintro e wb ⟨Y, cY, adY, rfl, sY, belY⟩)
  have HY := hide sY
  have HX : Hid (U8In wb X len0 cX adX f0) := HX.out.below belY
  have U2 : Hid (U8In wb a2 len2 cap2 ad2 f2) := U2.out.below belY
  have HBY : Hid (Below w.heap.size w wb) := HBX.out.trans (belY.mono HBX.out.size)
  clear sY belY U1 HBX
  go_upto_region 12 with (go_at_call 23; refine (clone23 _ _ _ _ _ _ U2.out (by omega) N2.out).mono ?_; rintro e wc ⟨Z, cZ, adZ, rfl, sZ, belZ⟩)
  have HZ := hide sZ
  have HX : Hid (U8In wc X len0 cX adX f0) := HX.out.below belZ
  have HY : Hid (U8In wc Y len0 cY adY f1) := HY.out.below belZ
  have HBZ : Hid (Below w.heap.size w wc) := HBY.out.trans (belZ.mono HBY.out.size)
  clear sZ belZ U2 HBY N0 N1 N2
  have HS := hide (searchAll24 X Y Z len0 cX cY len2 cZ adX adY adZ f0 f1 f2 wc HX.out HY.out HZ.out (by omega) (by omega))
  go_upto_region 13 with (go_at_call 24; refine HS.out.mono ?_; rintro e wd ⟨W, gm, g1, c1, g2, c2, k, ef, et, s, sv, ld, li, ll, rfl, i1, i2, hk, Q, belD⟩)
  have HL : Hid (L2 w wd W gm g1 g2 k ef et s.stack sv ld li ll) := ⟨HBZ.out.trans (belD.mono HBZ.out.size), i1, i2, Q.dq⟩
  have HP : Hid (Pl ef et k f2 len2 s) := ⟨i1.lt, i2.lt, HZ.out.lt, Q.inv, Q.must⟩
  have HR := hide Q.rel
  have HZ : Hid (U8In wd Z len2 cZ adZ f2) := HZ.out.below belD
  have hst := HP.out.inv.empty
  rw [hst] at HL
  clear i1 i2 Q belD HS HX HY HBZ hst
  have HRc := hide (reach26 wd g1 c1 g2 c2 k ef et HL.out.i1 HL.out.i2 hk)
  go_upto_region 14 with (go_at_call 26; refine HRc.out.mono ?_; rintro e we ⟨g, rb, rfl, hrow, hrb, belE, hge⟩)
  have HL : Hid (L2 w we W gm g1 g2 k ef et [] sv ld li ll) := HL.out.below belE
  have Hrow := hide hrow
  have Hrb := hide hrb
  clear hrow hrb belE HRc HZ hge
  go_wp2_with fail
  go_loopw [11] (fun ii wr => ∃ i : Nat, i ≤ k ∧ ii = .int .i64 i ∧ Hid (L2 w wr W gm g1 g2 k ef et [] sv ld li ll) ∧ Hid (wr.rowIs g 4 65536 (fun x => .bool (rb x)))) (fun ii _ => k - (intOf ii).toNat)
  case atStart => exact ⟨0, by omega, rfl, HL.out, Hrow.out⟩
  case round =>
    clear HL Hrow
    obtain ⟨i, hi, rfl, HL, Hrow⟩ := hrel
    by_cases hlt : i < k
    · have y1 := HL.out.i1.cell i hlt
      have y2 := HL.out.i2.cell i hlt
      have t1 := HP.out.f i
      have t2 := HP.out.t i
      go_upto_region 19 with fail
      cases hd : s.dep (nme (ef i)) with
      | none =>
        have Hd := hide hd
        clear hd
        go_upto_region 20 with (first
          | (go_at_call 30; refine (name30 (ef i) t1 wr).mono ?_; rintro e w4 ⟨rfl, hb4, -⟩)
          | (go_at_call 29; refine (depth29 W w4 gm sv ld li ll [] (nme (ef i)) none (HL.out.below hb4).dq (by rw [HR.out.d, Hd.out])).mono ?_; rintro e w5 ⟨rfl, rfl⟩))
        have HL4 := hide (HL.out.below hb4)
        have Hrow4 := hide (row_below Hrow.out hb4)
        clear hb4 HL Hrow y1 y2
        go_wp2_with fail
        go_roundw
        case rel => exact ⟨i + 1, by omega, by go_num, HL4.out, Hrow4.out⟩
        case measure => simp [intOf]; omega
      | some d =>
        obtain ⟨e, he, hr1, hr2⟩ := HP.out.role hlt hd
        have hd255 := HP.out.le255 hd
        have he255 := HP.out.le255 he
        have Hd := hide hd
        have He := hide he
        clear hd he
        go_upto_region 20 with (first
          | (go_at_call 30; refine (name30 (ef i) t1 wr).mono ?_; rintro en w4 ⟨rfl, hb4, -⟩)
          | (go_at_call 29; refine (depth29 W w4 gm sv ld li ll [] (nme (ef i)) (some d) (HL.out.below hb4).dq (by rw [HR.out.d, Hd.out])).mono ?_; rintro en w5 ⟨rfl, rfl⟩))
        have HL4 := hide (HL.out.below hb4)
        have Hrow4 := hide (row_below Hrow.out hb4)
        clear hb4 HL Hrow y1 y2
        go_upto_region 22 with (first
          | (go_at_call 30; refine (name30 (et i) t2 w4).mono ?_; rintro en w6 ⟨rfl, hb6, -⟩)
          | (go_at_call 29; refine (depth29 W w6 gm sv ld li ll [] (nme (et i)) (some e) (HL4.out.below hb6).dq (by rw [HR.out.d, He.out])).mono ?_; rintro en w7 ⟨rfl, rfl⟩))
        have HL6 := hide (HL4.out.below hb6)
        have Hrow6 := hide (row_below Hrow4.out hb6)
        clear hb6 HL4 Hrow4
        have x1 := idx48 g (et i * 256 + ef i) (by omega) ((et i : Int) * 256 + (ef i : Int)) (by omega)
        have z1 := Hrow6.out.cell (i := et i * 256 + ef i) (by omega)
        have hR := Hrb.out (et i) (ef i) t2 t1
        cases hb : rb (et i * 256 + ef i) with
        | true =>
          rw [hb] at z1
          have hed : e = d := hr1 (hR.1 hb)
          clear hR hb hr1 hr2
          subst hed
          go_wp2_with fail
          go_roundw
          case rel => exact ⟨i + 1, by omega, by go_num, HL6.out, Hrow6.out⟩
          case measure => simp [intOf]; omega
        | false =>
          rw [hb] at z1
          have hed : e < d := hr2 (fun h => by have := hR.2 h; rw [hb] at this; cases this)
          have hed' : ¬ (d : Int) ≤ (e : Int) := by omega
          clear hR hb hr1 hr2
          go_wp2_with fail
          go_roundw
          case rel => exact ⟨i + 1, by omega, by go_num, HL6.out, Hrow6.out⟩
          case measure => simp [intOf]; omega
    · obtain rfl : i = k := by omega
      clear Hrow Hrb
      go_wp2_with fail
      go_loopw [18] (fun ii wr => ∃ u : Nat, u ≤ 256 ∧ ii = .int .i64 u ∧ Hid (L2 w wr W gm g1 g2 i ef et [] sv ld li ll)) (fun ii _ => 256 - (intOf ii).toNat)
      case atStart => exact ⟨0, by omega, rfl, HL.out⟩
      case round =>
        clear HL
        obtain ⟨u, hu, rfl, HL⟩ := hrel
        by_cases hlt : u < 256
        · cases hd : s.dep (nme u) with
          | none =>
            have Hd := hide hd
            clear hd
            go_upto_region 33 with (first
              | (go_at_call 30; refine (name30 u hlt wr).mono ?_; rintro en w4 ⟨rfl, hb4, -⟩)
              | (go_at_call 29; refine (depth29 W w4 gm sv ld li ll [] (nme u) none (HL.out.below hb4).dq (by rw [HR.out.d, Hd.out])).mono ?_; rintro en w5 ⟨rfl, rfl⟩))
            have HL4 := hide (HL.out.below hb4)
            clear hb4 HL
            go_wp2_with fail
            go_roundw
            case rel => exact ⟨u + 1, by omega, by go_num, HL4.out⟩
            case measure => simp [intOf]; omega
          | some d =>
            have hd255 := HP.out.le255 hd
            have Hd := hide hd
            clear hd
            go_upto_region 33 with (first
              | (go_at_call 30; refine (name30 u hlt wr).mono ?_; rintro en w4 ⟨rfl, hb4, -⟩)
              | (go_at_call 29; refine (depth29 W w4 gm sv ld li ll [] (nme u) (some d) (HL.out.below hb4).dq (by rw [HR.out.d, Hd.out])).mono ?_; rintro en w5 ⟨rfl, rfl⟩))
            have HL4 := hide (HL.out.below hb4)
            clear hb4 HL
            have q1 : decide ((d : Int) < 0) = false := decide_eq_false (by omega)
            have q2 : decide ((255 : Int) < (d : Int)) = false := decide_eq_false (by omega)
            go_wp2_with fail
            go_roundw
            case rel => exact ⟨u + 1, by omega, by go_num, HL4.out⟩
            case measure => simp [intOf]; omega
        · obtain rfl : u = 256 := by omega
          go_wp2_with fail
          go_ret
          exact ⟨rfl, HL.out.bel⟩

end Go.Proofs.Qxb6000628a
