/-
  zzEdges (func 47); the small readers of the search's struct.
-/
import Derived.Test.Qxb6000628aByt
set_option linter.unusedVariables false
namespace Go.Proofs.Qxb6000628a
open Go.RowKit

/-- A row of numbers below 256. -/
structure In3 (w : World) (g n : Nat) (f : Nat → Nat) : Prop where
  cell : ∀ i, i < n → w.cell? ⟨g, i, none⟩ = some (.int .i64 (f i : Int))
  lt : ∀ i, f i < 256
  blk : g < w.heap.size

theorem In3.below {w w' : World} {g n : Nat} {f : Nat → Nat} (h : In3 w g n f) {B : Nat} (hb : Below B w w') (hB : g < B) : In3 w' g n f :=
  ⟨fun i hi => by rw [hb.cell hB]; exact h.cell i hi, h.lt, Nat.lt_of_lt_of_le h.blk hb.size⟩

theorem Try.info4 : (Try.prog.info? 4).map (fun i => (i.zero, i.size, i.bytes)) = some (some (.bool false), 1, 1) := by kernel_rfl

/-- The edges while they are read. -/
structure Ed (W w : World) (g1 c1 g2 c2 k : Nat) (L : List (Nat × Nat)) (b : Nat → Bool) : Prop where
  bel : Below W.heap.size W w
  seen : w.rowIs W.heap.size 4 65536 (fun i => .bool (b i))
  r1 : w.ownsRow (W.heap.size + 1) 3 1 (.slice (some ⟨g1, 0, none⟩) k c1) k (nats (L.map Prod.fst))
  r2 : w.ownsRow (W.heap.size + 1) 3 1 (.slice (some ⟨g2, 0, none⟩) k c2) k (nats (L.map Prod.snd))
  ap : g1 ≠ g2
  len : L.length = k
  lt : ∀ e ∈ L, e.1 < 256 ∧ e.2 < 256
  sn : ∀ e ∈ L, b (e.1 * 256 + e.2) = true
  nd : L.Nodup

/-- What comes of it: rows of numbers, with no pair twice. -/
theorem Ed.res {W w : World} {g1 c1 g2 c2 k : Nat} {L : List (Nat × Nat)} {b : Nat → Bool} (h : Ed W w g1 c1 g2 c2 k L b) : ∃ ef et, In3 w g1 k ef ∧ In3 w g2 k et ∧ ∀ i, i < k → ∀ j, j < i → ¬ (ef j = ef i ∧ et j = et i) := by
  have hl := h.len
  have hg : ∀ i, i < k → L[i]? = some (L.getD i (0, 0)) := fun i hi => by rw [List.getD_eq_getElem?_getD, List.getElem?_eq_getElem (by omega)]; rfl
  have hd : ∀ i, (L.getD i (0, 0)).1 < 256 ∧ (L.getD i (0, 0)).2 < 256 := by
    intro i
    by_cases hi : i < k
    · exact h.lt _ (List.mem_of_getElem? (hg i hi))
    · rw [List.getD_eq_getElem?_getD, List.getElem?_eq_none (by omega)]; exact ⟨by decide, by decide⟩
  refine ⟨fun i => (L.getD i (0, 0)).1, fun i => (L.getD i (0, 0)).2, ⟨fun i hi => ?_, fun i => (hd i).1, (h.r1.lt g1 rfl).2⟩, ⟨fun i hi => ?_, fun i => (hd i).2, (h.r2.lt g2 rfl).2⟩, fun i hi j hj he => ?_⟩
  · rw [h.r1.cellAt i (by omega)]
    simp only [nats, List.getElem?_map, hg i hi]
    rfl
  · rw [h.r2.cellAt i (by omega)]
    simp only [nats, List.getElem?_map, hg i hi]
    rfl
  · have e : L.getD j (0, 0) = L.getD i (0, 0) := Prod.ext he.1 he.2
    have h1 := hg i hi
    have h2 := hg j (by omega)
    rw [e, ← h1] at h2
    have := (List.getElem?_inj (by omega) h.nd).1 h2
    omega

theorem Ed.skip {W w : World} {g1 c1 g2 c2 k : Nat} {L : List (Nat × Nat)} {b : Nat → Bool} (h : Ed W w g1 c1 g2 c2 k L b) (n : Nat) : Ed W (w.drewN n) g1 c1 g2 c2 k L b :=
  ⟨⟨h.bel.os, h.bel.tape, h.bel.output, h.bel.size, h.bel.block⟩, h.seen, h.r1, h.r2, h.ap, h.len, h.lt, h.sn, h.nd⟩

theorem grown_block {w w' : World} {g : Nat} (hg : w.grownBy w' (some g)) {b : Nat} (hb : b < w.heap.size) (hne : b ≠ g) : w'.heap[b]? = w.heap[b]? := hg.block b hb (fun e => hne (by simpa using e))

theorem idx48 (g K : Nat) (hK : K < 65536) (z : Int) (hz : z = (K : Int)) : ∀ w : World, (Instr.indexAt 48 (.slice (some ⟨g, 0, none⟩) 65536 65536) (.int .i64 z)).run Try.prog w = .ok (.pointer (some ⟨g, K, none⟩)) w := by
  subst hz
  intro w
  have hc : (0 : Int) ≤ (K : Int) ∧ (K : Int) < 65536 := by omega
  simp [go_sem, hc, Try.underlying48]

/-- A new pair is marked. -/
theorem Ed.mark {W w : World} {g1 c1 g2 c2 k : Nat} {L : List (Nat × Nat)} {b : Nat → Bool} (h : Ed W w g1 c1 g2 c2 k L b) (K : Nat) : Ed W (w.setCell ⟨W.heap.size, K, none⟩ (.bool true)) g1 c1 g2 c2 k L (fun i => if i = K then true else b i) := by
  have hb : ∀ j, j ≠ W.heap.size → (w.setCell ⟨W.heap.size, K, none⟩ (.bool true)).heap[j]? = w.heap[j]? := fun j hj => Below.heap_setCell _ _ _ _ hj
  refine ⟨h.bel.setCell (Nat.le_refl _) _, (h.seen.set K _).congr (fun i _ => by split <;> rfl), own_block h.r1 (fun j hj => hb j (by have := (h.r1.lt j hj).1; omega)), own_block h.r2 (fun j hj => hb j (by have := (h.r2.lt j hj).1; omega)), h.ap, h.len, h.lt, fun e he => ?_, h.nd⟩
  show (if e.1 * 256 + e.2 = K then true else b (e.1 * 256 + e.2)) = true
  split
  · rfl
  · exact h.sn e he

theorem run_make48 (w : World) : (Instr.makeSlice 48 (.int .i64 65536) (.int .i64 65536)).run Try.prog w = .ok (.slice (some ⟨w.heap.size, 0, none⟩) 65536 65536) (w.alloc (.cells (madeCells #[.bool false] 65536) 4)) :=
  run_make_row' (P := Try.prog) 48 4 (.bool false) 1 Try.underlying48 Try.info4 rfl .i64 .i64 65536 (by omega) (by omega) w

theorem own_made0 (w : World) (base n : Nat) (hb : base ≤ w.heap.size) (hn : n ≤ 4096) : (w.alloc (.cells (madeCells #[.int .i64 0] n) 3)).ownsRow base 3 1 (.slice (some ⟨w.heap.size, 0, none⟩) 0 n) 0 [] := by
  refine ⟨rfl, .inr ⟨w.heap.size, n, _, rfl, hb, Go.Deep.blk_alloc_new _ _, Nat.zero_le _, ?_, ?_, by simp⟩⟩
  all_goals simp [madeCells, maxLen]
  all_goals omega

set_option maxHeartbeats 4000000 in
set_option maxRecDepth 100000 in
theorem edges47 (X Y : Option Addr) (n c d : Nat) (ad ad' : Nat → Addr) (f f' : Nat → Nat) (W : World) (h : U8In W X n c ad f) (h' : U8In W Y n d ad' f') (hn : n ≤ 4096) :
    Calls Try.prog 47 #[.slice X n c, .slice Y n d] W fun e w' => ∃ g1 c1 g2 c2 k ef et, e = .returned (.tuple #[.slice (some ⟨g1, 0, none⟩) k c1, .slice (some ⟨g2, 0, none⟩) k c2]) ∧ In3 w' g1 k ef ∧ In3 w' g2 k et ∧ k ≤ n ∧ Below W.heap.size W w' ∧ ∀ i, i < k → ∀ j, j < i → ¬ (ef j = ef i ∧ et j = et i) := by
  have hmk := run_make48
  have hmk0 := run_make0 n hn
  obtain ⟨i3, gi, gz0, gz1, gz2⟩ := info_parts Try.info3
  go_enter Try.func47, Try.ntmps47
  go_upto_region 4 with fail
  have hE : Ed W ((((W.alloc (.cells (madeCells #[.bool false] 65536) 4)).alloc (.cells (madeCells #[.int .i64 0] n) 3)).alloc (.cells (madeCells #[.int .i64 0] n) 3))) (W.heap.size + 1) n (W.heap.size + 2) n 0 [] (fun _ => false) := by
    have h1 := own_made0 (W.alloc (.cells (madeCells #[.bool false] 65536) 4)) (W.heap.size + 1) n (by simp) hn
    have h2 := own_made0 ((W.alloc (.cells (madeCells #[.bool false] 65536) 4)).alloc (.cells (madeCells #[.int .i64 0] n) 3)) (W.heap.size + 1) n (by simp) hn
    simp at h1 h2
    refine ⟨(((Below.refl _ _).alloc (Nat.le_refl _) _).alloc (by simp) _).alloc (by simp; omega) _, ((World.rowIs_made W (.bool false) 65536 4).alloc _).alloc _, h1.alloc _, h2, by omega, rfl, by simp, by simp, by simp⟩
  have HE := hide hE
  clear hE
  generalize ((W.alloc (.cells (madeCells #[.bool false] 65536) 4)).alloc (.cells (madeCells #[.int .i64 0] n) 3)).alloc (.cells (madeCells #[.int .i64 0] n) 3) = w0 at *
  go_wp2_with fail
  go_loopw [7, 8, 9] (fun v1 v2 ii wr => ∃ i : Nat, i ≤ n ∧ ii = .int .i64 i ∧ ∃ g1 c1 g2 c2 k L b, v1 = .slice (some ⟨g1, 0, none⟩) k c1 ∧ v2 = .slice (some ⟨g2, 0, none⟩) k c2 ∧ k ≤ i ∧ Hid (Ed W wr g1 c1 g2 c2 k L b)) (fun _ _ ii _ => n - (intOf ii).toNat)
  case atStart => exact ⟨0, by omega, rfl, _, _, _, _, 0, [], _, rfl, rfl, by omega, HE.out⟩
  case round =>
    clear HE
    obtain ⟨i, hi, rfl, g1, c1, g2, c2, k, L, b, rfl, rfl, hki, HE⟩ := hrel
    by_cases hlt : i < n
    · have hx1 := h.idx i hlt
      have hx2 := h'.idx i hlt
      have hy1 : wr.cell? (ad i) = some (.int .u8 (f i : Int)) := by
        rw [HE.out.bel.cell (World.block_lt_of_cell? W _ (h.cell i hlt))]
        exact h.cell i hlt
      have hy2 : wr.cell? (ad' i) = some (.int .u8 (f' i : Int)) := by
        rw [HE.out.bel.cell (World.block_lt_of_cell? W _ (h'.cell i hlt))]
        exact h'.cell i hlt
      have l1 := h.lt i
      have l2 := h'.lt i
      go_wp2_with fail
      go_quiet (fail)
      have HE2 : Hid (Ed W (wr.drewN nq) g1 c1 g2 c2 k L b) := HE.out.skip nq
      have hz1 : (wr.drewN nq).cell? (ad i) = some (.int .u8 (f i : Int)) := hy1
      have hz2 : (wr.drewN nq).cell? (ad' i) = some (.int .u8 (f' i : Int)) := hy2
      clear HE hy1 hy2
      generalize wr.drewN nq = w2 at *
      obtain ⟨K, hK⟩ : ∃ K, f i * 256 + f' i = K := ⟨_, rfl⟩
      have hKl : K < 65536 := by omega
      have hix := idx48 W.heap.size K hKl ((f i : Int) * 256 + (f' i : Int)) (by omega)
      have hcl := HE2.out.seen.cell hKl
      have hfr := HE2.out.seen.frozen K
      by_cases hb : b K = true
      · rw [hb] at hcl
        clear hz1 hz2
        go_wp2_with fail
        go_roundw
        case rel => exact ⟨i + 1, by omega, by go_num, _, _, _, _, _, _, _, rfl, rfl, by omega, HE2.out⟩
        case measure => simp [intOf]; omega
      · have hb' : b K = false := by simpa using hb
        rw [hb'] at hcl
        have Hb := hide hb'
        clear hb hb'
        have HE3 := hide (HE2.out.mark K)
        have b1 : (ad i).block < W.heap.size := World.block_lt_of_cell? W _ (h.cell i hlt)
        have b2 : (ad' i).block < W.heap.size := World.block_lt_of_cell? W _ (h'.cell i hlt)
        have hz3 : (w2.setCell ⟨W.heap.size, K, none⟩ (.bool true)).cell? (ad i) = some (.int .u8 (f i : Int)) := by rw [HE3.out.bel.cell b1]; exact h.cell i hlt
        have hz4 : (w2.setCell ⟨W.heap.size, K, none⟩ (.bool true)).cell? (ad' i) = some (.int .u8 (f' i : Int)) := by rw [HE3.out.bel.cell b2]; exact h'.cell i hlt
        clear hz1 hz2
        go_upto_region 10 with fail
        generalize w2.setCell ⟨W.heap.size, K, none⟩ (.bool true) = w3 at *
        have HE2s : Hid (∀ e ∈ L, b (e.1 * 256 + e.2) = true) := HE2.out.sn
        clear hcl hfr hix HE2
        have bs := HE3.out.bel.size
        have r1lt := HE3.out.r1.lt g1 rfl
        have r2lt := HE3.out.r2.lt g2 rfl
        have r1 := hide HE3.out.r1
        have r2 := hide HE3.out.r2
        go_wp2_with (at_builtin; go_must (refine wpList_appC (xs := nats (L.map Prod.fst)) (x := .int .i64 (f i : Int)) rfl _ _ 32 rfl (W.heap.size + 1) Try.underlying32 gi gz0 gz1 gz2 rfl k rfl ?hown rfl ?hx rfl ?hl ?hm ?hb ?hK))
        case hown => exact r1.out.alloc _
        case hx => exact cellAt_of (cs := #[.int .i64 (f i : Int)]) (t := 3) (fz := (0, 0)) (Go.Deep.blk_alloc_new _ _) rfl
        case hl => omega
        case hm => unfold maxLen; omega
        case hb => simp; omega
        case hK =>
          intro g1' c1' w4 hown1 hgr1 hgo1
          have sz3 : (w3.alloc (.cells #[.int .i64 (f i : Int)] 3)).heap.size = w3.heap.size + 1 := by simp
          have bel4 : Below W.heap.size W w4 := (HE3.out.bel.alloc bs _).grown hgr1 (by omega) (fun b hb => by
            have : b = g1 := by simpa [Value.ownBlock] using hb.symm
            omega)
          have hbl : ∀ j, j < w3.heap.size → j ≠ g1 → w4.heap[j]? = w3.heap[j]? := fun j hj hne => by
            rw [grown_block hgr1 (by omega) hne]
            exact Go.Deep.blk_alloc_lt _ _ _ hj
          have seen4 := HE3.out.seen.of_block (hbl _ (HE3.out.seen.lt) (by omega))
          have r24 := own_block (w' := w4) r2.out (fun j hj => by
            have : j = g2 := by simpa [Value.ownBlock] using hj.symm
            subst this
            exact hbl j r2lt.2 (fun e => HE3.out.ap e.symm))
          have hz5 : w4.cell? (ad' i) = some (.int .u8 (f' i : Int)) := by rw [bel4.cell b2]; exact h'.cell i hlt
          have ap1 : g1' ≠ g2 := by
            rcases hgo1 with e | e
            · have : g1 = g1' := by simpa [Value.ownBlock] using e
              rw [← this]; exact HE3.out.ap
            · omega
          have g1lt := hown1.lt g1' rfl
          have g2lt := r24.lt g2 rfl
          have Hseen4 := hide seen4
          have Hown1 := hide hown1
          have Hr24 := hide r24
          have bs4 := bel4.size
          clear hgr1 hbl seen4 hown1 r24 hgo1 hz3 hz4
          go_wp2_with (at_builtin; go_must (refine wpList_appC (xs := nats (L.map Prod.snd)) (x := .int .i64 (f' i : Int)) rfl _ _ 32 rfl (W.heap.size + 1) Try.underlying32 gi gz0 gz1 gz2 rfl k rfl ?hown rfl ?hx rfl ?hl ?hm ?hb ?hK))
          case hown => exact Hr24.out.alloc _
          case hx => exact cellAt_of (cs := #[.int .i64 (f' i : Int)]) (t := 3) (fz := (0, 0)) (Go.Deep.blk_alloc_new _ _) rfl
          case hl => omega
          case hm => unfold maxLen; omega
          case hb => simp; omega
          case hK =>
            intro g2' c2' w5 hown2 hgr2 hgo2
            have sz4 : (w4.alloc (.cells #[.int .i64 (f' i : Int)] 3)).heap.size = w4.heap.size + 1 := by simp
            have bel5 : Below W.heap.size W w5 := (bel4.alloc bs4 _).grown hgr2 (by omega) (fun b hb => by
              have : b = g2 := by simpa [Value.ownBlock] using hb.symm
              omega)
            have hbl : ∀ j, j < w4.heap.size → j ≠ g2 → w5.heap[j]? = w4.heap[j]? := fun j hj hne => by
              rw [grown_block hgr2 (by omega) hne]
              exact Go.Deep.blk_alloc_lt _ _ _ hj
            have seen5 := Hseen4.out.of_block (hbl _ (Hseen4.out.lt) (by omega))
            have r15 := own_block (w' := w5) Hown1.out (fun j hj => by
              have : j = g1' := by simpa [Value.ownBlock] using hj.symm
              subst this
              exact hbl j g1lt.2 ap1)
            have ap2 : g1' ≠ g2' := by
              rcases hgo2 with e | e
              · have : g2 = g2' := by simpa [Value.ownBlock] using e
                rw [← this]; exact ap1
              · omega
            have hni : (f i, f' i) ∉ L := fun hm => by
              have := HE3.out.nd
              have h9 := Hb.out
              have h8 := HE2s.out (f i, f' i) hm
              simp only [hK] at h8
              rw [h9] at h8
              cases h8
            have hnew : Ed W w5 g1' c1' g2' c2' (k + 1) (L ++ [(f i, f' i)]) (fun j => if j = K then true else b j) := by
              refine ⟨bel5, seen5, by simpa [nats] using r15, by simpa [nats] using hown2, ap2, by simp [HE3.out.len], ?_, ?_, ?_⟩
              · intro e he
                rcases List.mem_append.1 he with he | he
                · exact HE3.out.lt e he
                · simp at he; subst he; exact ⟨l1, l2⟩
              · intro e he
                rcases List.mem_append.1 he with he | he
                · exact HE3.out.sn e he
                · simp at he; subst he; simp [hK]
              · rw [List.nodup_append]
                refine ⟨HE3.out.nd, by simp, fun a ha b hb => ?_⟩
                simp at hb
                subst hb
                exact fun e => hni (e ▸ ha)
            have Hnew := hide hnew
            clear hnew hgr2 hbl seen5 r15 hown2 hgo2 bel5
            go_wp2_with fail
            go_roundw
            case rel => exact ⟨i + 1, by omega, by go_num, _, _, _, _, _, _, _, rfl, rfl, by omega, Hnew.out⟩
            case measure => simp [intOf]; omega
    · obtain rfl : i = n := by omega
      go_wp2_with fail
      go_ret2
      obtain ⟨ef, et, h1, h2, h3⟩ := HE.out.res
      exact ⟨_, _, _, _, _, ef, et, rfl, h1, h2, hki, HE.out.bel, h3⟩

theorem depth29 (W w : World) (gm : Nat) (sv : Value) (ld li ll : List (ByteArray × Value)) (st : List ByteArray) (s : ByteArray) (o : Option Nat) (D : Dq W w gm sv ld li ll st) (ho : mget ld s = intV o) :
    Calls Try.prog 29 #[.pointer (some ⟨W.heap.size + 3, 0, none⟩), .string s] w fun e w' => e = .returned (.tuple #[.int .i64 ((o.getD 0 : Nat) : Int), .bool o.isSome]) ∧ w = w' := by
  have c1 := D.c1
  have hl := look_int D.md ho
  go_enter Try.func29, Try.ntmps29
  go_wp2_with fail
  go_ret2
  exact ⟨rfl, rfl⟩

theorem stackLen25 (W w : World) (gm : Nat) (sv : Value) (ld li ll : List (ByteArray × Value)) (D : Dq W w gm sv ld li ll []) :
    Calls Try.prog 25 #[.pointer (some ⟨W.heap.size + 3, 0, none⟩)] w fun e w' => e = .returned (.int .i64 0) ∧ w = w' := by
  have c4 := D.c4
  have hsv : ∃ X c, sv = .slice X 0 c := by
    rcases D.row.2 with ⟨h1, _⟩ | ⟨g, cap, cur, hv, _⟩
    · exact ⟨_, _, h1⟩
    · exact ⟨_, _, hv⟩
  obtain ⟨X, c, rfl⟩ := hsv
  go_enter Try.func25, Try.ntmps25
  go_wp2_with fail
  go_ret
  exact ⟨rfl, rfl⟩

theorem MapIs.fresh (w : World) : MapIs (w.alloc (.map #[] 0)) w.heap.size [] := ⟨#[], 0, Go.Deep.blk_alloc_new _ _, by simp⟩

set_option maxHeartbeats 2000000 in
theorem new48 (gm : Nat) (w : World) :
    Calls Try.prog 48 #[.map (some gm)] w fun e w' => e = .returned (.pointer (some ⟨w.heap.size + 3, 0, none⟩)) ∧ Dq w w' gm (.slice none 0 0) [] [] [] [] := by
  have hmm := @run_makeMap Try.prog
  go_enter Try.func48, Try.ntmps48
  go_wp2_with fail
  go_ret
  refine ⟨rfl, ?_⟩
  obtain ⟨w1, h1⟩ : ∃ w1, w.alloc (.map #[] 0) = w1 := ⟨_, rfl⟩
  obtain ⟨w2, h2⟩ : ∃ w2, w1.alloc (.map #[] 0) = w2 := ⟨_, rfl⟩
  obtain ⟨w3, h3⟩ : ∃ w3, w2.alloc (.map #[] 0) = w3 := ⟨_, rfl⟩
  have s1 : w1.heap.size = w.heap.size + 1 := by rw [← h1]; simp
  have s2 : w2.heap.size = w.heap.size + 2 := by rw [← h2]; simp [s1]
  have s3 : w3.heap.size = w.heap.size + 3 := by rw [← h3]; simp [s2]
  have m1 : MapIs w1 w.heap.size [] := by rw [← h1]; exact MapIs.fresh w
  have m2 : MapIs w2 (w.heap.size + 1) [] := by have := MapIs.fresh w1; rw [h2, s1] at this; exact this
  have m3 : MapIs w3 (w.heap.size + 2) [] := by have := MapIs.fresh w2; rw [h3, s2] at this; exact this
  have b1 : Below w.heap.size w w1 := by rw [← h1]; exact (Below.refl _ _).alloc (Nat.le_refl _) _
  have b2 : Below w1.heap.size w1 w2 := by rw [← h2]; exact (Below.refl _ _).alloc (Nat.le_refl _) _
  have b3 : Below w2.heap.size w2 w3 := by rw [← h3]; exact (Below.refl _ _).alloc (Nat.le_refl _) _
  rw [h1, h2, h3]
  generalize hc : Obj.cells _ 78 = ob
  have b4 : Below w3.heap.size w3 (w3.alloc ob) := (Below.refl _ _).alloc (Nat.le_refl _) _
  have n4 : (w3.alloc ob).heap[w.heap.size + 3]? = some ob := by rw [← s3]; exact Go.Deep.blk_alloc_new _ _
  subst hc
  refine ⟨((b1.trans (b2.mono (by omega))).trans (b3.mono (by omega))).trans (b4.mono (by omega)), n4, ?_, ?_, ?_, World.ownsRow_nil _ _ _ _⟩
  · exact ((m1.of_block (b2.block _ (by omega))).of_block (b3.block _ (by omega))).of_block (b4.block _ (by omega))
  · exact (m2.of_block (b3.block _ (by omega))).of_block (b4.block _ (by omega))
  · exact m3.of_block (b4.block _ (by omega))

theorem search49 (W w : World) (gm B0 : Nat) (own : Nat → Nat) (E : List Ent) (T M : ByteArray → Prop) (U : List ByteArray) (s0 : Ts ByteArray) (sv : Value) (ld li ll : List (ByteArray × Value)) (name : ByteArray)
    (hG : Graph W gm B0 false own E) (D : Dq W w gm sv ld li ll s0.stack) (R : Rel s0 ld li ll) (I : Inv (rolesIn E) T s0 []) (S : Sur s0) (hT : ∀ u, T u → ∀ v ∈ rolesIn E u, T v) (hU : ∀ v, T v → v ∈ U) (hUl : U.length ≤ 256)
    (hrl : ∀ v, (rolesIn E v).length ≤ 65536) (hT0 : T name) (hi : s0.idx name = none) (hM : ∀ v, M v → v = name ∨ s0.idx v ≠ none) :
    Calls Try.prog 49 #[.pointer (some ⟨W.heap.size + 3, 0, none⟩), .string name] w fun e w' => e = .returned (.tuple #[]) ∧ ∃ s sv' ld' li' ll', Dq W w' gm sv' ld' li' ll' s.stack ∧ Rel s ld' li' ll' ∧ Inv (rolesIn E) T s [] ∧ Sur s ∧ ∀ v, M v → s.idx v ≠ none := by
  have H := hide (search53 W w gm B0 own E T M U s0 sv ld li ll name hG D R I S hT hU hUl hrl hT0 hi hM)
  clear hG D R I S hT hU hUl hrl hT0 hi hM
  go_enter Try.func49, Try.ntmps49
  go_wp2_with (go_at_call 53; refine H.out.mono ?_; rintro en w' ⟨rfl, h1⟩)
  go_end0
  exact ⟨rfl, h1⟩

end Go.Proofs.Qxb6000628a
