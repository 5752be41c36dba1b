/-
  FnSearchDepthsMatchCondensation (func 5): the walk.
-/
import Derived.Test.Qxb6000628aCnd
set_option linter.unusedVariables false
namespace Go.Proofs.Qxb6000628a
open Go.RowKit

/-- What lies in memory while law 3 compares. -/
structure L3 (w0 w W : World) (gm g1 g2 k : Nat) (ef et : Nat → Nat) (sv : Value) (ld li ll : List (ByteArray × Value)) (g : Nat) (rb : Nat → Bool) (gd : Nat) (D : Nat → Nat) (Z : Option Addr) (m cZ : Nat) (adZ : Nat → Addr) (fq : Nat → Nat) : Prop where
  l2 : L2 w0 w W gm g1 g2 k ef et [] sv ld li ll
  rr : w.rowIs g 4 65536 (fun x => .bool (rb x))
  dd : Rn w gd 256 D
  zz : U8In w Z m cZ adZ fq

theorem L3.below {w0 w w' W : World} {gm g1 g2 k : Nat} {ef et : Nat → Nat} {sv : Value} {ld li ll : List (ByteArray × Value)} {g : Nat} {rb : Nat → Bool} {gd : Nat} {D : Nat → Nat} {Z : Option Addr} {m cZ : Nat} {adZ : Nat → Addr} {fq : Nat → Nat}
    (h : L3 w0 w W gm g1 g2 k ef et sv ld li ll g rb gd D Z m cZ adZ fq) (hb : Below w.heap.size w w') : L3 w0 w' W gm g1 g2 k ef et sv ld li ll g rb gd D Z m cZ adZ fq :=
  ⟨h.l2.below hb, row_below h.rr hb, row_below h.dd hb, h.zz.below hb⟩

set_option maxHeartbeats 8000000 in
set_option maxRecDepth 100000 in
theorem law3 (a0 : Option Addr) (len0 cap0 : Nat) (z0 : List Int) (a1 : Option Addr) (len1 cap1 : Nat) (z1 : List Int) (a2 : Option Addr) (len2 cap2 : Nat) (z2 : List Int) (w : World) (w0 : IsU8 w a0 len0 cap0 z0) (w1 : IsU8 w a1 len1 cap1 z1) (w2 : IsU8 w a2 len2 cap2 z2) :
    Calls Try.prog 5 #[.slice a0 len0 cap0, .slice a1 len1 cap1, .slice a2 len2 cap2] w fun e w' => e = .returned (.bool true) ∧ Below w.heap.size w w' := by
  obtain ⟨⟨ad0, f0, u0⟩, n0⟩ := w0.in
  obtain ⟨⟨ad1, f1, u1⟩, n1⟩ := w1.in
  obtain ⟨⟨ad2, f2, u2⟩, n2⟩ := w2.in
  clear w0 w1 w2
  have l0 := u0.len
  have l1 := u1.len
  have l2 := u2.len
  have U0 := hide u0
  have U1 := hide u1
  have U2 := hide u2
  have N0 := hide n0
  have N1 := hide n1
  have N2 := hide n2
  clear u0 u1 u2 n0 n1 n2
  go_enter Try.func5, Try.ntmps5
  go_wp2_with fail
  refine (bytes22 _ _ _ _ _ _ _ _ _ _ l0 l1 l2).mono ?_
  rintro e wx ⟨⟨b, rfl⟩, rfl⟩
  cases b with
  | false =>
    go_wp2_with fail
    go_ret
    exact ⟨rfl, Below.refl _ _⟩
  | true =>
  by_cases h0 : 4096 < len0
  · go_wp2_with fail
    go_ret
    exact ⟨rfl, Below.refl _ _⟩
  by_cases h1 : 4096 < len1
  · go_wp2_with fail
    go_ret
    exact ⟨rfl, Below.refl _ _⟩
  by_cases h2 : 4096 < len2
  · go_wp2_with fail
    go_ret
    exact ⟨rfl, Below.refl _ _⟩
  have d0 : decide ((4096 : Int) < (len0 : Int)) = false := by simp; omega
  have d1 : decide ((4096 : Int) < (len1 : Int)) = false := by simp; omega
  have d2 : decide ((4096 : Int) < (len2 : Int)) = false := by simp; omega
  have d3 : ¬ (1048576 : Int) < (len0 : Int) + (len1 : Int) + (len2 : Int) := by omega
  by_cases h3 : len0 = len1
  case neg =>
    have h3' : ¬ (len0 : Int) = (len1 : Int) := by omega
    go_wp2_with fail
    go_ret
    exact ⟨rfl, Below.refl _ _⟩
  subst h3
  go_upto_region 9 with fail
  go_upto_region 10 with (go_at_call 23; refine (clone23 _ _ _ _ _ _ U0.out (by omega) N0.out).mono ?_; rintro e wa ⟨X, cX, adX, rfl, sX, belX⟩)
  have HX := hide sX
  have HBX := hide belX
  have U1 : Hid (U8In wa a1 len0 cap1 ad1 f1) := U1.out.below belX
  have U2 : Hid (U8In wa a2 len2 cap2 ad2 f2) := U2.out.below belX
  clear sX belX U0
  go_upto_region 11 with (go_at_call 23; refine (clone23 _ _ _ _ _ _ U1.out (by omega) N1.out).mono ?_; rintro e wb ⟨Y, cY, adY, rfl, sY, belY⟩)
  have HY := hide sY
  have HX : Hid (U8In wb X len0 cX adX f0) := HX.out.below belY
  have U2 : Hid (U8In wb a2 len2 cap2 ad2 f2) := U2.out.below belY
  have HBY : Hid (Below w.heap.size w wb) := HBX.out.trans (belY.mono HBX.out.size)
  clear sY belY U1 HBX
  go_upto_region 12 with (go_at_call 23; refine (clone23 _ _ _ _ _ _ U2.out (by omega) N2.out).mono ?_; rintro e wc ⟨Z, cZ, adZ, rfl, sZ, belZ⟩)
  have HZ := hide sZ
  have HX : Hid (U8In wc X len0 cX adX f0) := HX.out.below belZ
  have HY : Hid (U8In wc Y len0 cY adY f1) := HY.out.below belZ
  have HBZ : Hid (Below w.heap.size w wc) := HBY.out.trans (belZ.mono HBY.out.size)
  clear sZ belZ U2 HBY N0 N1 N2
  have HS := hide (searchAll24 X Y Z len0 cX cY len2 cZ adX adY adZ f0 f1 f2 wc HX.out HY.out HZ.out (by omega) (by omega))
  go_upto_region 13 with (go_at_call 24; refine HS.out.mono ?_; rintro e wd ⟨W, gm, g1, c1, g2, c2, k, ef, et, s, sv, ld, li, ll, rfl, i1, i2, hk, Q, belD⟩)
  have HL : Hid (L2 w wd W gm g1 g2 k ef et s.stack sv ld li ll) := ⟨HBZ.out.trans (belD.mono HBZ.out.size), i1, i2, Q.dq⟩
  have HP : Hid (Pl ef et k f2 len2 s) := ⟨i1.lt, i2.lt, HZ.out.lt, Q.inv, Q.must⟩
  have HR := hide Q.rel
  have HZ : Hid (U8In wd Z len2 cZ adZ f2) := HZ.out.below belD
  have hst := HP.out.inv.empty
  rw [hst] at HL
  clear i1 i2 Q belD HS HX HY HBZ hst
  have hs25 := hide (stackLen25 W wd gm sv ld li ll HL.out.dq)
  go_upto_region 15 with (go_at_call 25; refine hs25.out.mono ?_; rintro e wx ⟨rfl, rfl⟩)
  have HRc := hide (reach26 wd g1 c1 g2 c2 k ef et HL.out.i1 HL.out.i2 hk)
  go_upto_region 16 with (go_at_call 26; refine HRc.out.mono ?_; rintro e we ⟨g, rb, rfl, hrow, hrb, belE, hge⟩)
  have HL : Hid (L2 w we W gm g1 g2 k ef et [] sv ld li ll) := HL.out.below belE
  have HZ : Hid (U8In we Z len2 cZ adZ f2) := HZ.out.below belE
  have Hrow := hide hrow
  have Hrb := hide hrb
  clear hrow hrb belE HRc hge hs25
  have HRp := hide (reps27 we g k ef et rb Hrow.out Hrb.out)
  go_upto_region 17 with (go_at_call 27; refine HRp.out.mono ?_; rintro e wf ⟨gr, rep, rfl, hrep, hRp, belF⟩)
  have HL : Hid (L2 w wf W gm g1 g2 k ef et [] sv ld li ll) := HL.out.below belF
  have HZ : Hid (U8In wf Z len2 cZ adZ f2) := HZ.out.below belF
  have Hrow : Hid (wf.rowIs g 4 65536 (fun x => .bool (rb x))) := row_below Hrow.out belF
  have HRp2 := hide hRp
  have Hrep := hide hrep
  clear hRp hrep belF HRp
  have HCd := hide (cond28 wf g1 c1 g2 c2 gr k ef et rep HL.out.i1 HL.out.i2 Hrep.out (fun u hu => Nat.lt_of_le_of_lt (HRp2.out u hu).le hu) hk)
  go_upto_region 18 with (go_at_call 28; refine HCd.out.mono ?_; rintro e wg ⟨gd, r, D, rfl, hdep, hDr, hend, hr300, belG⟩)
  have H3 : Hid (L3 w wg W gm g1 g2 k ef et sv ld li ll g rb gd D Z len2 cZ adZ f2) := ⟨HL.out.below belG, row_below Hrow.out belG, hdep, HZ.out.below belG⟩
  have HDd : Hid (∀ u d, u < 256 → s.dep (nme u) = some d → D u = d) := fun u d hu hd => by rw [hDr u hu]; exact HP.out.rnd_end HRp2.out hend hu hd
  clear hdep hDr hend hr300 belG HCd HL HZ Hrow Hrep HRp2
  go_wp2_with fail
  go_loopw [13] (fun ii wr => ∃ u : Nat, u ≤ 256 ∧ ii = .int .i64 u ∧ Hid (L3 w wr W gm g1 g2 k ef et sv ld li ll g rb gd D Z len2 cZ adZ f2)) (fun ii _ => 256 - (intOf ii).toNat)
  case atStart => exact ⟨0, by omega, rfl, H3.out⟩
  case round =>
    clear H3
    obtain ⟨u, hu, rfl, H3⟩ := hrel
    by_cases hlt : u < 256
    · have hiff := HP.out.settled_iff hlt
      cases hd : s.dep (nme u) with
      | none =>
        have hnq : ∀ q, q < len2 → ¬ Reach (nb ef et k) (f2 q) u := fun q hq hr => (hiff.2 ⟨q, hq, hr⟩) hd
        have Hnq := hide hnq
        have Hd := hide hd
        clear hnq hd hiff
        go_wp2_with fail
        go_loopw [14, 15] (fun bb qq wr => ∃ q : Nat, q ≤ len2 ∧ bb = .bool false ∧ qq = .int .i64 q ∧ Hid (L3 w wr W gm g1 g2 k ef et sv ld li ll g rb gd D Z len2 cZ adZ f2)) (fun _ qq _ => len2 - (intOf qq).toNat)
        case atStart => exact ⟨0, by omega, rfl, rfl, H3.out⟩
        case round =>
          clear H3
          obtain ⟨q, hq, rfl, rfl, H3⟩ := hrel
          by_cases hlt2 : q < len2
          · have x1 := H3.out.zz.idx q hlt2
            have y1 := H3.out.zz.cell q hlt2
            have t1 := H3.out.zz.lt q
            have x2 := idx48 g (f2 q * 256 + u) (by omega) ((f2 q : Int) * 256 + (u : Int)) (by omega)
            have y2 := H3.out.rr.cell (i := f2 q * 256 + u) (by omega)
            have hbf : rb (f2 q * 256 + u) = false := by
              cases hb : rb (f2 q * 256 + u) with
              | false => rfl
              | true => exact absurd ((Hrb.out (f2 q) u t1 hlt).1 hb) (Hnq.out q hlt2)
            rw [hbf] at y2
            clear hbf
            go_wp2_with fail
            go_roundw
            case rel => exact ⟨q + 1, by omega, rfl, by go_num, H3.out⟩
            case measure => simp [intOf]; omega
          · obtain rfl : q = len2 := by omega
            go_upto_region 28 with (first
              | (go_at_call 30; refine (name30 u hlt wr).mono ?_; rintro en w4 ⟨rfl, hb4, -⟩)
              | (go_at_call 29; refine (depth29 W w4 gm sv ld li ll [] (nme u) none (H3.out.below hb4).l2.dq (by rw [HR.out.d, Hd.out])).mono ?_; rintro en w5 ⟨rfl, rfl⟩))
            have H4 := hide (H3.out.below hb4)
            clear hb4 H3
            go_wp2_with fail
            go_roundw
            case rel => exact ⟨u + 1, by omega, by go_num, H4.out⟩
            case measure => simp [intOf]; omega
      | some d =>
        obtain ⟨q0, hq0, hr0⟩ := hiff.1 (by rw [hd]; simp)
        have Hr0 := hide hr0
        have hDu := HDd.out u d hlt hd
        have hd255 := HP.out.le255 hd
        have Hd := hide hd
        clear hr0 hd hiff
        go_wp2_with fail
        go_loopw [14, 15] (fun bb qq wr => ∃ q : Nat, q ≤ len2 ∧ bb = .bool false ∧ qq = .int .i64 q ∧ Hid (L3 w wr W gm g1 g2 k ef et sv ld li ll g rb gd D Z len2 cZ adZ f2) ∧ Hid (∀ q', q' < q → ¬ Reach (nb ef et k) (f2 q') u)) (fun _ qq _ => len2 - (intOf qq).toNat)
        case atStart => exact ⟨0, by omega, rfl, rfl, H3.out, fun q hq => absurd hq (Nat.not_lt_zero _)⟩
        case round =>
          clear H3
          obtain ⟨q, hq, rfl, rfl, H3, hnq⟩ := hrel
          by_cases hlt2 : q < len2
          · have x1 := H3.out.zz.idx q hlt2
            have y1 := H3.out.zz.cell q hlt2
            have t1 := H3.out.zz.lt q
            have x2 := idx48 g (f2 q * 256 + u) (by omega) ((f2 q : Int) * 256 + (u : Int)) (by omega)
            have y2 := H3.out.rr.cell (i := f2 q * 256 + u) (by omega)
            have hiff2 := Hrb.out (f2 q) u t1 hlt
            cases hb : rb (f2 q * 256 + u) with
            | false =>
              rw [hb] at y2 hiff2
              have hno : ¬ Reach (nb ef et k) (f2 q) u := fun h => by have := hiff2.2 h; cases this
              have Hno := hide hno
              clear hno hb hiff2
              go_wp2_with fail
              go_roundw
              case rel => exact ⟨q + 1, by omega, rfl, by go_num, H3.out, fun q' hq' => by
                  by_cases e : q' = q
                  · rw [e]; exact Hno.out
                  · exact hnq.out q' (by omega)⟩
              case measure => simp [intOf]; omega
            | true =>
              rw [hb] at y2
              clear hb hiff2
              go_upto_region 28 with (first
                | (go_at_call 30; refine (name30 u hlt wr).mono ?_; rintro en w4 ⟨rfl, hb4, -⟩)
                | (go_at_call 29; refine (depth29 W w4 gm sv ld li ll [] (nme u) (some d) (H3.out.below hb4).l2.dq (by rw [HR.out.d, Hd.out])).mono ?_; rintro en w5 ⟨rfl, rfl⟩))
              have H4 := hide (H3.out.below hb4)
              have z1 := H4.out.dd.cell (i := u) hlt
              rw [hDu] at z1
              clear hb4 H3 x1 y1 x2 y2
              go_wp2_with fail
              go_roundw
              case rel => exact ⟨u + 1, by omega, by go_num, H4.out⟩
              case measure => simp [intOf]; omega
          · obtain rfl : q = len2 := by omega
            exact absurd Hr0.out (hnq.out q0 hq0)
    · obtain rfl : u = 256 := by omega
      go_wp2_with fail
      go_ret
      exact ⟨rfl, H3.out.l2.bel⟩

end Go.Proofs.Qxb6000628a
