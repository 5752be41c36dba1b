/-
  zzSearchAll (func 24).
-/
import Derived.Test.Qxb6000628aEdges
import Derived.Deep.RegionWith
set_option linter.unusedVariables false
namespace Go.Proofs.Qxb6000628a
open Go.RowKit

def eN (ef : Nat → Nat) (i : Nat) : ByteArray := nme (ef i)

/-- The names' roles. -/
def adjE (ef et : Nat → Nat) (k : Nat) : ByteArray → List ByteArray := rolesIn (bld (eN ef) (eN et) false k)

/-- What the queries reach. -/
def TQ (ef et : Nat → Nat) (k : Nat) (fq : Nat → Nat) (m : Nat) (v : ByteArray) : Prop := ∃ q, q < m ∧ Reach (adjE ef et k) (nme (fq q)) v

def allN : List ByteArray := (List.range 256).map nme

theorem mem_allN {u : Nat} (hu : u < 256) : nme u ∈ allN := List.mem_map.2 ⟨u, List.mem_range.2 hu, rfl⟩

theorem mem_adjE {ef et : Nat → Nat} {k : Nat} {s v : ByteArray} : v ∈ adjE ef et k s ↔ ∃ i, i < k ∧ nme (ef i) = s ∧ nme (et i) = v := by
  unfold adjE
  rw [roles_bld]
  constructor
  · intro h
    obtain ⟨i, hi, rfl⟩ := List.mem_map.1 h
    exact ⟨i, (idxs_lt hi).1, (idxs_lt hi).2, rfl⟩
  · rintro ⟨i, hi, rfl, rfl⟩
    exact List.mem_map.2 ⟨i, idxs_mem (nm := eN ef) hi, rfl⟩

theorem adjE_length (ef et : Nat → Nat) (k : Nat) (s : ByteArray) : (adjE ef et k s).length ≤ k := by
  unfold adjE
  rw [roles_bld, List.length_map]
  exact idxs_length _ _ _

theorem TQ.closed {ef et : Nat → Nat} {k : Nat} {fq : Nat → Nat} {m : Nat} : ∀ u, TQ ef et k fq m u → ∀ v ∈ adjE ef et k u, TQ ef et k fq m v := by
  rintro u ⟨q, hq, hr⟩ v hv
  exact ⟨q, hq, hr.trans (Reach.edge hv)⟩

theorem TQ.all {ef et : Nat → Nat} {k : Nat} {fq : Nat → Nat} {m : Nat} (he : ∀ i, et i < 256) (hf : ∀ i, fq i < 256) : ∀ v, TQ ef et k fq m v → v ∈ allN := by
  rintro v ⟨q, hq, hr⟩
  refine hr.closed (T := fun v => v ∈ allN) (fun u _ v hv => ?_) (mem_allN (hf q))
  obtain ⟨i, hi, _, rfl⟩ := mem_adjE.1 hv
  exact mem_allN (he i)

theorem allN_length : allN.length = 256 := by simp [allN]

/-- The queries so far. -/
structure Qs (W w : World) (gm : Nat) (ef et : Nat → Nat) (k : Nat) (fq : Nat → Nat) (m i : Nat) (s : Ts ByteArray) (sv : Value) (ld li ll : List (ByteArray × Value)) : Prop where
  dq : Dq W w gm sv ld li ll s.stack
  rel : Rel s ld li ll
  inv : Inv (adjE ef et k) (TQ ef et k fq m) s []
  sur : Sur s
  must : ∀ q, q < i → s.idx (nme (fq q)) ≠ none

def SA (w0 w' : World) (en : Ending) (m : Nat) (fq : Nat → Nat) : Prop := ∃ W gm g1 c1 g2 c2 k ef et s sv ld li ll,
  en = .returned (.tuple #[.pointer (some ⟨W.heap.size + 3, 0, none⟩), .slice (some ⟨g1, 0, none⟩) k c1, .slice (some ⟨g2, 0, none⟩) k c2]) ∧ In3 w' g1 k ef ∧ In3 w' g2 k et ∧ k ≤ 4096 ∧ Qs W w' gm ef et k fq m m s sv ld li ll ∧ Below w0.heap.size w0 w'

set_option maxHeartbeats 2000000 in
set_option maxRecDepth 100000 in
theorem searchAll24 (X Y Z : Option Addr) (n c d m cq : Nat) (ad ad' adq : Nat → Addr) (f f' fq : Nat → Nat) (w0 : World) (h : U8In w0 X n c ad f) (h' : U8In w0 Y n d ad' f') (hq : U8In w0 Z m cq adq fq) (hn : n ≤ 4096) (hm : m ≤ 4096) :
    Calls Try.prog 24 #[.slice X n c, .slice Y n d, .slice Z m cq] w0 fun en w' => SA w0 w' en m fq := by
  have Hed := hide (edges47 X Y n c d ad ad' f f' w0 h h' hn)
  clear h h'
  go_enter Try.func24, Try.ntmps24
  go_upto_region 2 with (go_at_call 47; refine Hed.out.mono ?_; rintro en w1 ⟨g1, c1, g2, c2, k, ef, et, rfl, h1, h2, hk, hb, hdi⟩)
  have hDist : Dist (eN ef) (eN et) k := fun i hi j hj he => hdi i hi j hj ⟨nme_inj (h1.lt _) (h1.lt _) he.1, nme_inj (h2.lt _) (h2.lt _) he.2⟩
  have HD := hide hDist
  have HB := hide hb
  clear hdi hDist hb Hed
  go_upto_region 3 with (go_at_call 13; refine (ZZNew_any w1).mono ?_; rintro en w2 ⟨rfl, rfl⟩)
  have hG := hide (Graph.start w1 false)
  have hb2 := hide ((Below.refl w1.heap.size w1).alloc (Nat.le_refl _) (.map #[] 0))
  generalize w1.alloc (.map #[] 0) = w2 at *
  go_wp2_with fail
  go_loopw [12] (fun ii wr => ∃ i : Nat, i ≤ k ∧ ii = .int .i64 i ∧ ∃ own, Hid (Graph wr w1.heap.size w1.heap.size false own (bld (eN ef) (eN et) false i)) ∧ Hid (Below w1.heap.size w1 wr)) (fun ii _ => k - (intOf ii).toNat)
  case atStart => exact ⟨0, by omega, rfl, _, hG.out, hb2.out⟩
  case round =>
    clear hG hb2
    obtain ⟨i, hi, rfl, own, hG, hb2⟩ := hrel
    by_cases hlt : i < k
    · have y1 := (h1.below hb2.out h1.blk).cell i hlt
      have y2 := (h2.below hb2.out h2.blk).cell i hlt
      have b1 := h1.blk
      have b2 := h2.blk
      have bs := hb2.out.size
      have l1 := h1.lt i
      have l2 := h2.lt i
      have hc1 : Hid (∀ u : Nat, u < 256 → ∀ w, Below wr.heap.size wr w → Calls Try.prog 30 #[.int .i64 (u : Int)] w fun e w' => e = .returned (.string (nme u)) ∧ Below wr.heap.size wr w' ∧ w'.cell? ⟨g1, i, none⟩ = some (.int .i64 (ef i : Int)) ∧ w'.cell? ⟨g2, i, none⟩ = some (.int .i64 (et i : Int))) := fun u hu w hw =>
        (name30 u hu w).mono (by
          rintro e w' ⟨rfl, hb, _⟩
          have hb' := hw.trans (hb.mono hw.size)
          exact ⟨rfl, hb', by rw [hb'.cell (show g1 < wr.heap.size by omega)]; exact y1, by rw [hb'.cell (show g2 < wr.heap.size by omega)]; exact y2⟩)
      have hc3 : Hid (∀ w, Below wr.heap.size wr w → Calls Try.prog 14 #[.map (some w1.heap.size), .slice (some ⟨w.heap.size, 0, none⟩) 2 2, .int .i64 (-1)] (w.alloc (.cells #[.string (nme (ef i)), .string (nme (et i))] 9)) fun en w' => en = .returned (.tuple #[]) ∧ Below w1.heap.size wr w' ∧ ∃ own', Graph w' w1.heap.size w1.heap.size false own' (bld (eN ef) (eN et) false (i + 1))) := fun w hw => by
        have hw' : Below wr.heap.size wr (w.alloc (.cells #[.string (nme (ef i)), .string (nme (et i))] 9)) := hw.alloc hw.size _
        refine (ZZAddLink_any w1.heap.size w.heap.size w1.heap.size false own (bld (eN ef) (eN et) false i) (eN ef i) (eN et i) (-1) _ (hG.out.below hw') (Go.Deep.blk_alloc_new _ _) (hG.out.hi _ hw.size) (by have := hw.size; omega) (by simp) (by simp) (nodup_step HD.out hlt) ?_).mono ?_
        · rw [roles_bld, List.length_map]
          have := idxs_length (eN ef) (eN ef i) i
          omega
        · rintro en w' ⟨rfl, hb, own', hG'⟩
          exact ⟨rfl, (hw'.mono bs).trans hb, own', hG'⟩
      have hd0 : Below wr.heap.size wr wr.drew := Dr.mk' wr 1
      have hd1 : Below wr.heap.size wr wr := Below.refl _ _
      go_upto_region 6 with fail
      clear HD HB hm hq h1 h2 hG
      go_region_with (first
          | (go_at_call 30; refine (hc1.out _ ?_ _ ?_).mono ?_; (first | exact l1 | exact l2); (first | assumption | exact hd0); rintro e wa ⟨rfl, hba, ya1, ya2⟩)
          | (go_at_call 14; refine (hc3.out _ ?_).mono ?_; (first | assumption | exact hd0); rintro e wa ⟨rfl, hba, own', ya1⟩))
      all_goals (have Hba := hide hba; have Hya := hide ya1; clear hba ya1; go_wp2_with fail; go_roundw)
      all_goals first
        | exact ⟨i + 1, by omega, by go_num, own', Hya.out, hb2.out.trans Hba.out⟩
        | (simp [intOf]; omega)
    · obtain rfl : i = k := by omega
      have h1r := hide (h1.below hb2.out h1.blk)
      have h2r := hide (h2.below hb2.out h2.blk)
      have hqr := hide ((hq.below HB.out).below (hb2.out.mono (Nat.le_refl _)))
      have hbr := hide (HB.out.trans (hb2.out.mono HB.out.size))
      have b1 := h1.blk
      have b2 := h2.blk
      have bs := hb2.out.size
      have t2 := hide h2.lt
      clear h1 h2 hq HB HD hb2
      obtain ⟨W, hW⟩ : ∃ W, W = wr := ⟨wr, rfl⟩
      subst hW
      go_upto_region 8 with (go_at_call 48; refine (new48 w1.heap.size W).mono ?_; rintro en w3 ⟨rfl, D0⟩)
      have Q0 : Qs W w3 w1.heap.size ef et i fq m 0 ⟨fun _ => none, fun _ => 0, fun _ => none, fun _ => 0, [], 0⟩ (.slice none 0 0) [] [] [] :=
        ⟨D0, ⟨fun v => rfl, rfl, fun v => rfl, fun v hv => absurd rfl hv⟩, Inv.start0 _ _, fun j hj => absurd hj (Nat.not_lt_zero _), fun q hq => absurd hq (Nat.not_lt_zero _)⟩
      have HQ0 := hide Q0
      clear Q0 D0
      go_wp2_with fail
      go_loopw [14] (fun jj w => ∃ j : Nat, j ≤ m ∧ jj = .int .i64 j ∧ ∃ s sv ld li ll, Hid (Qs W w w1.heap.size ef et i fq m j s sv ld li ll)) (fun jj _ => m - (intOf jj).toNat)
      case atStart => exact ⟨0, by omega, rfl, _, _, _, _, _, HQ0.out⟩
      case round =>
        clear HQ0
        obtain ⟨j, hj, rfl, s, sv, ld, li, ll, HQ⟩ := hrel
        by_cases hlt2 : j < m
        · have hz := hqr.out.below HQ.out.dq.bel
          have x1 := hz.idx j hlt2
          have y1 := hz.cell j hlt2
          have z1 := hz.lt j
          have hzl := hide hz.lt
          clear hz
          go_upto_region 12 with (go_at_call 30; refine (name30 (fq j) z1 wr).mono ?_; rintro e w4 ⟨rfl, hb4, -⟩)
          have HQ4 : Hid (Qs W w4 w1.heap.size ef et i fq m j s sv ld li ll) := ⟨HQ.out.dq.below hb4, HQ.out.rel, HQ.out.inv, HQ.out.sur, HQ.out.must⟩
          clear HQ hb4 x1 y1
          cases hdep : s.dep (nme (fq j)) with
          | some dd =>
            have Hdep := hide hdep
            clear hdep
            go_upto_region 13 with (go_at_call 29; refine (depth29 W w4 w1.heap.size sv ld li ll s.stack (nme (fq j)) (some dd) HQ4.out.dq (by rw [HQ4.out.rel.d, Hdep.out])).mono ?_; rintro e w5 ⟨rfl, rfl⟩)
            go_wp2_with fail
            go_roundw
            case rel => exact ⟨j + 1, by omega, by go_num, s, sv, ld, li, ll, HQ4.out.dq, HQ4.out.rel, HQ4.out.inv, HQ4.out.sur, fun q hq => by
                by_cases e : q = j
                · rw [e]; exact HQ4.out.inv.cov _ (by rw [Hdep.out]; simp)
                · exact HQ4.out.must q (by omega)⟩
            case measure => simp [intOf]; omega
          | none =>
            have Hdep := hide hdep
            clear hdep
            go_upto_region 13 with (go_at_call 29; refine (depth29 W w4 w1.heap.size sv ld li ll s.stack (nme (fq j)) none HQ4.out.dq (by rw [HQ4.out.rel.d, Hdep.out])).mono ?_; rintro e w5 ⟨rfl, rfl⟩)
            have hidx : s.idx (nme (fq j)) = none := by
              cases hx : s.idx (nme (fq j)) with
              | none => rfl
              | some x =>
                have h1 := (HQ4.out.inv.stk (nme (fq j))).2 ⟨by rw [hx]; simp, Hdep.out⟩
                rw [HQ4.out.inv.empty] at h1
                simp at h1
            have hS := hide (search49 W w4 w1.heap.size w1.heap.size own (bld (eN ef) (eN et) false i) (TQ ef et i fq m) (fun v => ∃ q, q < j + 1 ∧ v = nme (fq q)) allN s sv ld li ll (nme (fq j)) hG.out HQ4.out.dq HQ4.out.rel HQ4.out.inv HQ4.out.sur
              TQ.closed (TQ.all t2.out hzl.out) (by rw [allN_length]; exact Nat.le_refl _) (fun v => Nat.le_trans (adjE_length ef et i v) (by omega)) ⟨j, hlt2, Reach.refl _ _⟩ hidx (by
                rintro v ⟨q, hq, rfl⟩
                by_cases e : q = j
                · left; rw [e]
                · right; exact HQ4.out.must q (by omega)))
            clear hidx
            go_wp2_with (go_at_call 49; refine hS.out.mono ?_; rintro e w6 ⟨rfl, s', sv', ld', li', ll', a1, a2, a3, a4, a5⟩)
            have HQ6 : Hid (Qs W w6 w1.heap.size ef et i fq m (j + 1) s' sv' ld' li' ll') := ⟨a1, a2, a3, a4, fun q hq => a5 _ ⟨q, hq, rfl⟩⟩
            clear a1 a2 a3 a4 a5
            go_wp2_with fail
            go_roundw
            case rel => exact ⟨j + 1, by omega, by go_num, s', sv', ld', li', ll', HQ6.out⟩
            case measure => simp [intOf]; omega
        · obtain rfl : j = m := by omega
          go_wp2_with fail
          go_ret3
          exact ⟨W, w1.heap.size, g1, c1, g2, c2, i, ef, et, s, sv, ld, li, ll, rfl, h1r.out.below HQ.out.dq.bel (by omega), h2r.out.below HQ.out.dq.bel (by omega), by omega, HQ.out, hbr.out.trans (HQ.out.dq.bel.mono hbr.out.size)⟩

end Go.Proofs.Qxb6000628a
