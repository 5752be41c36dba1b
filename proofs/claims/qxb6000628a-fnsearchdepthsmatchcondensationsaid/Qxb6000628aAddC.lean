/-
  addLink onto a name that is there and has no place: the ninth role.
-/
import Derived.Test.Qxb6000628aAddB
set_option linter.unusedVariables false
namespace Go.Proofs.Qxb6000628a
open Go.RowKit

theorem run_make69 (n : Int) (w : World) : (Instr.makeMap 69 (some (.int .i64 n))).run Try.prog w = .ok (.map (some w.heap.size)) (w.alloc (.map #[] 0)) := by
  simp [Instr.makeMap, run_underlying Try.underlying69, asInt, asIntOf]

theorem Fr.mono2 {F G : Nat → Prop} {a b : World} {n : Nat} (h : Fr F a b) (hf : ∀ k, k < n → F k → G k) (hn : n ≤ a.heap.size) : Fr (fun k => G k ∨ n ≤ k) a b :=
  h.mono (fun k hk f => (Nat.lt_or_ge k n).elim (fun hl => .inl (hf k hl f)) .inr)
theorem Fr.trans2 {F : Nat → Prop} {a b c : World} (h : Fr F a b) (k : Fr (fun k => F k ∨ a.heap.size ≤ k) b c) : Fr F a c :=
  ⟨k.os.trans h.os, k.tape.trans h.tape, k.output.trans h.output, Nat.le_trans h.size k.size, fun i hi hf => (k.block i (Nat.lt_of_lt_of_le hi h.size) (fun e => e.elim hf (fun e => by omega))).trans (h.block i hi hf)⟩

/-- The role index while it is filled. -/
theorem zip_take_succ {roles : List ByteArray} {pls : List Int} {k : Nat} {s : ByteArray} {p : Int} (hl : pls.length = roles.length) (hs : roles[k]? = some s) (hp : pls[k]? = some p) (hnd : roles.Nodup) :
    mput ((roles.take k).zip (ints (pls.take k))) s (.int .i64 p) = (roles.take (k + 1)).zip (ints (pls.take (k + 1))) := by
  have hk : k < roles.length := (List.getElem?_eq_some_iff.1 hs).1
  have e1 : roles.take (k + 1) = roles.take k ++ [s] := by rw [List.take_add_one, hs]; rfl
  have e2 : pls.take (k + 1) = pls.take k ++ [p] := by rw [List.take_add_one, hp]; rfl
  rw [e1, e2]
  refine zip_put (by simp [hl]) ?_
  intro hm
  have h1 : (roles.take k ++ [s]).Nodup := by rw [← e1]; exact hnd.sublist (List.take_sublist _ _)
  rw [List.nodup_append] at h1
  exact h1.2.2 s hm s (by simp) rfl

set_option maxHeartbeats 2000000 in
set_option maxRecDepth 100000 in
/-- A name that is there, no place, its ninth role. -/
theorem add_ninth (gm b : Nat) (name role : ByteArray) (l : List (ByteArray × Value)) (own : Nat → Prop) (placed : Bool) (e : Ent) (ra : Option Addr) (n rc : Nat) (at0 at_ : Int) (w : World) (hm : MapIs w gm l) (hb : w.heap[b]? = some (.cells #[.string name, .string role] 9 (0, 0)))
    (ho : ∀ k, own k → k < w.heap.size) (hgo : ¬ own gm) (hn : mget l name = some (entV (.slice ra n rc) at0 (none))) (he : EntAt w own placed e (.slice ra n rc) at0 (none)) (hlen : e.roles.length = n) (hpl : placed = false) (h8 : 8 ≤ n) (h8b : n ≤ 8) (hnd : (e.roles ++ [role]).Nodup) :
    Calls Try.prog 43 #[.map (some gm), .slice (some ⟨b, 0, none⟩) 2 2, .int .i64 (-1)] w fun en w' => en = .returned (.tuple #[]) ∧ ∃ rv' mo', MapIs w' gm (mput l name (entV rv' at0 mo')) ∧
      EntAt w' (fun k => own k ∨ w.heap.size ≤ k) placed { e with roles := e.roles ++ [role], pls := e.pls ++ [(-1)] } rv' at0 mo' ∧ Fr (fun k => k = gm ∨ own k) w w' := by
  subst hpl
  have hd8 : decide ((8 : Int) < (n : Int) + 1) = true := by simp; omega
  obtain rfl : at0 = -1 := he.no rfl at0 (List.mem_of_getElem? he.first)
  have c0 : w.cell? ⟨b, 0, none⟩ = some (.string name) := by simp [World.cell?, hb]
  have c1 : w.cell? ⟨b, 1, none⟩ = some (.string role) := by simp [World.cell?, hb]
  have Hn := hide hn
  have Hl := hide hlen
  obtain ⟨i9, hi, hz0, hz1, hz2⟩ := info_parts Try.info9
  have hlenS : Hid ((strs e.roles).length = n) := by show _ = _; rw [← hlen]; simp [strs]
  clear hb hn hlen
  go_enter Try.func43, Try.ntmps43
  go_wp2_with fail
  go_quiet (fail)
  have hmW : MapIs (w.drewN nq) gm l := hm.of_block rfl
  have frW : Fr (fun k => k = gm ∨ own k) w (w.drewN nq) := (Fr.refl _ w).drewN nq
  have heW : EntAt (w.drewN nq) own false e (.slice ra n rc) (-1) (none) := he.mono (fun _ _ => rfl) (fun _ h => h)
  have hoW : ∀ k, own k → k < (w.drewN nq).heap.size := ho
  have szW : Hid ((w.drewN nq).heap.size = w.heap.size) := rfl
  generalize w.drewN nq = W at *
  clear hm c0 c1 he
  have hl := run_look Try.underlying28 Try.underlying9 hmW Hn.out true
  simp only [if_true, entV] at hl
  have hne : ∀ k, (Value.slice ra n rc).ownBlock = some k → k < W.heap.size := fun k hk => hoW k (heW.rown k hk)
  have hSl : Sl ((W.alloc (.cells #[.slice ra n rc, .int .i64 (-1), .pointer (none)] 67)).alloc (.cells #[.string role] 9)) 9 (.slice ra n rc) (strs e.roles) :=
    heW.roles.of_block (fun k hk => by rw [Go.Deep.blk_alloc_lt _ _ _ (by simp; have := hne k hk; omega), Go.Deep.blk_alloc_lt _ _ _ (hne k hk)])
  go_wp2_with (at_builtin; go_must (refine wpList_app (xs := strs e.roles) (x := .string role) rfl _ _ 22 rfl Try.underlying22 hi hz0 hz1 hz2 rfl rfl ?hS rfl ?hx rfl n hlenS.out ?hb1 ?hb2 ?hK))
  case hS => exact hSl
  case hx => simp
  case hb1 => omega
  case hb2 => unfold maxLen; omega
  case hK =>
    intro g cap w1 hS1 hgr hloc
    have hL := loc_app hgr hne
    have hLoc := Loc.of_heap hL
    have hc0 := hLoc.c0
    have hc1 := hLoc.c1
    have hc2 := hLoc.c2
    have hf := hLoc.f
    have hlt := hLoc.lt
    have Hloc := hide hloc
    clear hLoc hloc hSl hl
    have hgL : g ≠ W.heap.size := fun e => by
      rcases Hloc.out with h | h
      · have := hne g h.symm; omega
      · omega
    obtain ⟨w2, hw2⟩ : ∃ w2, w2 = w1.setCell ⟨W.heap.size, 0, none⟩ (.slice (some ⟨g, 0, none⟩) (n + 1) cap) := ⟨_, rfl⟩
    have hL2 : w2.heap[W.heap.size]? = some (.cells #[.slice (some ⟨g, 0, none⟩) (n + 1) cap, .int .i64 (-1), .pointer (none)] 67 (0, 0)) := by
      rw [hw2]; simp [World.setCell, Array.getElem?_modify, hL]
    have hS2 : Sl w2 9 (.slice (some ⟨g, 0, none⟩) (n + 1) cap) (strs e.roles ++ [.string role]) := by
      rw [hw2]
      exact hS1.of_block (fun k hk => Below.heap_setCell _ _ _ _ (by simp [Value.ownBlock] at hk; subst hk; exact hgL))
    have hold : ∀ k, k < W.heap.size → some k ≠ (Value.slice ra n rc).ownBlock → w2.heap[k]? = W.heap[k]? := fun k hk hkr => by
      rw [hw2, Below.heap_setCell _ _ _ _ (by show k ≠ W.heap.size; omega), hgr.block k (by simp; omega) hkr, Go.Deep.blk_alloc_lt _ _ _ (by simp; omega), Go.Deep.blk_alloc_lt _ _ _ hk]
    have fr1 : Fr (fun k => k = gm ∨ own k) w w1 := ((frW.alloc _).alloc _).grown hgr (fun k hk _ => .inr (heW.rown k hk))
    have fr2 : Fr (fun k => k = gm ∨ own k) w w2 := by rw [hw2]; exact fr1.setCell (fun h => by exfalso; have := szW.out; simp at h; omega) _
    have hgmW : gm ≠ W.heap.size := by have := hmW.lt; omega
    have hm2 : MapIs w2 gm l := hmW.of_block (hold gm hmW.lt (fun e => nomap heW.roles e.symm hmW))
    have hg2 : some g = (Value.slice ra n rc).ownBlock ∨ w.heap.size ≤ g := by
      rcases Hloc.out with h | h
      · exact .inl h
      · right; have := szW.out; omega
    have hsz2 : W.heap.size < w2.heap.size := (Array.getElem?_eq_some_iff.1 hL2).1
    have hgd : g < w2.heap.size := by obtain ⟨cur, hcur⟩ := hS2.block (k := g) rfl; exact (Array.getElem?_eq_some_iff.1 hcur).1
    have hltL : w.heap.size ≤ W.heap.size := by have := szW.out; omega
    have rownW := heW.rown
    have posE := heW.pos; have lenE := heW.len; have firstE := heW.first; have noE := hide heW.no; have yesE := hide heW.yes
    have Hw2 := hide hw2
    clear hw2
    go_wp2_with fail
    rw [← Hw2.out]
    generalize W.heap.size = L at *
    clear hgr hL hc0 hc1 hc2 hf hlt hS1 fr1 frW hmW heW hold
    have hLoc := Loc.of_heap hL2
    have hc0 := hLoc.c0
    have hc1 := hLoc.c1
    have hc2 := hLoc.c2
    have hlt := hLoc.lt
    have hfz := hLoc.f
    refine (many_nil _ _ _).mono ?_
    rintro en w' ⟨rfl, rfl⟩
    go_wp2_with fail
    have hL3 : (((w2.setCell ⟨L, 2, none⟩ (.pointer (some ⟨w2.heap.size + 1, 0, none⟩))).alloc (.cells #[.slice (some ⟨g, 0, none⟩) (n + 1) cap, .int .i64 (-1), .pointer none] 67)).alloc (.cells #[.slice none 0 0, .map none] 71)).heap[L]? =
        some (.cells #[.slice (some ⟨g, 0, none⟩) (n + 1) cap, .int .i64 (-1), .pointer (some ⟨w2.heap.size + 1, 0, none⟩)] 67 (0, 0)) := by
      rw [Go.Deep.blk_alloc_lt _ _ _ (by simp; omega), Go.Deep.blk_alloc_lt _ _ _ (by simp; omega)]
      simp [World.setCell, Array.getElem?_modify, hL2]
    have hold3 : ∀ k, k < w2.heap.size → k ≠ L → (((w2.setCell ⟨L, 2, none⟩ (.pointer (some ⟨w2.heap.size + 1, 0, none⟩))).alloc (.cells #[.slice (some ⟨g, 0, none⟩) (n + 1) cap, .int .i64 (-1), .pointer none] 67)).alloc (.cells #[.slice none 0 0, .map none] 71)).heap[k]? = w2.heap[k]? := fun k hk hkL => by
      rw [Go.Deep.blk_alloc_lt _ _ _ (by simp; omega), Go.Deep.blk_alloc_lt _ _ _ (by simp; omega), Below.heap_setCell _ _ _ _ hkL]
    have hM3 : (((w2.setCell ⟨L, 2, none⟩ (.pointer (some ⟨w2.heap.size + 1, 0, none⟩))).alloc (.cells #[.slice (some ⟨g, 0, none⟩) (n + 1) cap, .int .i64 (-1), .pointer none] 67)).alloc (.cells #[.slice none 0 0, .map none] 71)).heap[w2.heap.size + 1]? = some (.cells #[.slice none 0 0, .map none] 71 (0, 0)) := by
      have := Go.Deep.blk_alloc_new ((w2.setCell ⟨L, 2, none⟩ (.pointer (some ⟨w2.heap.size + 1, 0, none⟩))).alloc (.cells #[.slice (some ⟨g, 0, none⟩) (n + 1) cap, .int .i64 (-1), .pointer none] 67)) (.cells #[.slice none 0 0, .map none] 71)
      simpa using this
    have fr3 : Fr (fun k => k = gm ∨ own k) w (((w2.setCell ⟨L, 2, none⟩ (.pointer (some ⟨w2.heap.size + 1, 0, none⟩))).alloc (.cells #[.slice (some ⟨g, 0, none⟩) (n + 1) cap, .int .i64 (-1), .pointer none] 67)).alloc (.cells #[.slice none 0 0, .map none] 71)) :=
      ((fr2.setCell (fun h => by exfalso; simp at h; omega) _).alloc _).alloc _
    have hsz3 : (((w2.setCell ⟨L, 2, none⟩ (.pointer (some ⟨w2.heap.size + 1, 0, none⟩))).alloc (.cells #[.slice (some ⟨g, 0, none⟩) (n + 1) cap, .int .i64 (-1), .pointer none] 67)).alloc (.cells #[.slice none 0 0, .map none] 71)).heap.size = w2.heap.size + 2 := by simp
    generalize (((w2.setCell ⟨L, 2, none⟩ (.pointer (some ⟨w2.heap.size + 1, 0, none⟩))).alloc (.cells #[.slice (some ⟨g, 0, none⟩) (n + 1) cap, .int .i64 (-1), .pointer none] 67)).alloc (.cells #[.slice none 0 0, .map none] 71)) = w3 at *
    have hM : w.heap.size ≤ w2.heap.size + 1 := by omega
    have hML : w2.heap.size + 1 ≠ L := by omega
    have hmgm : gm ≠ L := fun e => by subst e; obtain ⟨es, c, h1, _⟩ := hm2; rw [hL2] at h1; cases h1
    have hm3 : MapIs w3 gm l := hm2.of_block (hold3 gm hm2.lt hmgm)
    have hgml : gm < w2.heap.size := hm2.lt
    have hS3 : Sl w3 9 (.slice (some ⟨g, 0, none⟩) (n + 1) cap) (strs e.roles ++ [.string role]) := hS2.of_block (fun k hk => by
      obtain ⟨cur, hcur⟩ := hS2.block hk
      exact hold3 k (Array.getElem?_eq_some_iff.1 hcur).1 (fun e => by subst e; rw [hL2] at hcur; cases hcur))
    have hgM : g ≠ w2.heap.size + 1 := by omega
    have hgmM : gm ≠ w2.heap.size + 1 := by omega
    have hMlt : w2.heap.size + 1 < w3.heap.size := by omega
    have HM := hide hM
    generalize w2.heap.size + 1 = M at *
    clear hold3 hm2 hS2 fr2 hL2 hLoc hc0 hc1 hc2 hlt hfz
    have hLoc := Loc.of_heap hL3
    have hc0 := hLoc.c0
    have hc1 := hLoc.c1
    have hc2 := hLoc.c2
    have hlt := hLoc.lt
    have hM1 : w3.cell? ⟨M, 1, none⟩ = some (.map none) := by simp [World.cell?, hM3]
    have hMf : w3.frozen? ⟨M, 1, none⟩ = false := by simp [World.frozen?, hM3]
    have hmk := run_make69
    have hsz3' := hide hsz3
    clear hsz3 hM
    go_region
    have hL4 : ((w3.setCell ⟨M, 1, none⟩ (.map (some w3.heap.size))).alloc (.map #[] 0)).drew.heap[L]? = some (.cells #[.slice (some ⟨g, 0, none⟩) (n + 1) cap, .int .i64 (-1), .pointer (some ⟨M, 0, none⟩)] 67 (0, 0)) := by
      show ((w3.setCell ⟨M, 1, none⟩ (.map (some w3.heap.size))).alloc (.map #[] 0)).heap[L]? = _
      rw [Go.Deep.blk_alloc_lt _ _ _ (by simp; omega), Below.heap_setCell _ _ _ _ (fun e => hML e.symm)]
      exact hL3
    have hM4 : ((w3.setCell ⟨M, 1, none⟩ (.map (some w3.heap.size))).alloc (.map #[] 0)).drew.heap[M]? = some (.cells #[.slice none 0 0, .map (some w3.heap.size)] 71 (0, 0)) := by
      show ((w3.setCell ⟨M, 1, none⟩ (.map (some w3.heap.size))).alloc (.map #[] 0)).heap[M]? = _
      rw [Go.Deep.blk_alloc_lt _ _ _ (by simp; omega)]
      simp [World.setCell, Array.getElem?_modify, hM3]
    have hold4 : ∀ k, k < w3.heap.size → k ≠ M → ((w3.setCell ⟨M, 1, none⟩ (.map (some w3.heap.size))).alloc (.map #[] 0)).drew.heap[k]? = w3.heap[k]? := fun k hk hkM => by
      show ((w3.setCell ⟨M, 1, none⟩ (.map (some w3.heap.size))).alloc (.map #[] 0)).heap[k]? = _
      rw [Go.Deep.blk_alloc_lt _ _ _ (by simp; omega), Below.heap_setCell _ _ _ _ hkM]
    have hR4 : MapIs ((w3.setCell ⟨M, 1, none⟩ (.map (some w3.heap.size))).alloc (.map #[] 0)).drew w3.heap.size [] := by
      have := MapIs.made (w3.setCell ⟨M, 1, none⟩ (.map (some w3.heap.size)))
      simp only [World.size_setCell] at this
      exact this.of_block rfl
    have fr4 : Fr (fun k => k = gm ∨ own k) w ((w3.setCell ⟨M, 1, none⟩ (.map (some w3.heap.size))).alloc (.map #[] 0)).drew :=
      ((fr3.setCell (fun h => by exfalso; have := HM.out; simp at h; omega) _).alloc _).drew
    generalize ((w3.setCell ⟨M, 1, none⟩ (.map (some w3.heap.size))).alloc (.map #[] 0)).drew = w4 at *
    have hm4 : MapIs w4 gm l := hm3.of_block (hold4 gm hm3.lt hgmM)
    have hS4 : Sl w4 9 (.slice (some ⟨g, 0, none⟩) (n + 1) cap) (strs (e.roles ++ [role])) := by
      rw [strs_snoc]
      refine hS3.of_block (fun k hk => ?_)
      obtain ⟨cur, hcur⟩ := hS3.block hk
      refine hold4 k (Array.getElem?_eq_some_iff.1 hcur).1 ?_
      simp [Value.ownBlock] at hk
      subst hk
      exact hgM
    have hgmR : gm ≠ w3.heap.size := by have := hm3.lt; omega
    have hLR : L ≠ w3.heap.size := by omega
    have hMR : M ≠ w3.heap.size := by omega
    have hRw : w.heap.size ≤ w3.heap.size := fr3.size
    have HR := hide hRw
    generalize w3.heap.size = R at *
    clear hc0 hc1 hc2 hlt hM1 hMf hmk hL3 hM3 hS3 hm3 hold4 fr3 hLoc hsz3'
    have hcells : ∀ (k : Nat) (u : Value), (strs (e.roles ++ [role]))[k]? = some u → w4.cell? ⟨g, k, none⟩ = some u := by
      obtain ⟨a, cp, hv, _, hc⟩ := hS4.shape
      injection hv with hv1 hv2 hv3
      intro k u hu
      have := hc g 0 hv1.symm k u hu
      simpa using this
    have hlenR : (e.roles ++ [role]).length = n + 1 := by simp [Hl.out]
    have hlenP : (e.pls ++ [(-1 : Int)]).length = (e.roles ++ [role]).length := by simp [lenE]
    have hpl1 : ∀ k p, (e.pls ++ [(-1 : Int)])[k]? = some p → p = -1 := fun k p hp => by
      have := List.mem_of_getElem? hp
      simp only [List.mem_append, List.mem_singleton] at this
      rcases this with h | h
      · exact noE.out trivial p h
      · exact h
    have HlenR := hide hlenR
    have HlenP := hide hlenP
    have Hpl1 := hide hpl1
    have Hcells := hide hcells
    clear hlenR hlenP hpl1 hcells
    have hLoc := Loc.of_heap hL4
    have hc0 := hLoc.c0
    have hc1 := hLoc.c1
    have hc2 := hLoc.c2
    have hlt := hLoc.lt
    go_wp2_with fail
    go_loopw [91] (fun i wr => ∃ k : Nat, k ≤ n + 1 ∧ i = .int .i64 k ∧ MapIs wr R (((e.roles ++ [role]).take k).zip (ints ((e.pls ++ [-1]).take k))) ∧ Fr (· = R) w4 wr) (fun i _ => n + 1 - (intOf i).toNat)
    case atStart => exact ⟨0, by omega, rfl, by simpa [ints] using hR4, Fr.refl _ _⟩
    case round =>
      obtain ⟨k, hk, rfl, hmr, frr⟩ := hrel
      have hLr : wr.heap[L]? = some (.cells #[.slice (some ⟨g, 0, none⟩) (n + 1) cap, .int .i64 (-1), .pointer (some ⟨M, 0, none⟩)] 67 (0, 0)) := by rw [frr.block L hlt hLR]; exact hL4
      have hMr : wr.heap[M]? = some (.cells #[.slice none 0 0, .map (some R)] 71 (0, 0)) := by rw [frr.block M (Array.getElem?_eq_some_iff.1 hM4).1 hMR]; exact hM4
      have hLocr := Loc.of_heap hLr
      have hd0 := hLocr.c0
      have hd1 := hLocr.c1
      have hd2 := hLocr.c2
      have hdm : wr.cell? ⟨M, 1, none⟩ = some (.map (some R)) := by simp [World.cell?, hMr]
      clear hc0 hc1 hc2 hLoc
      by_cases hlt1 : k < n + 1
      · obtain ⟨s, hs⟩ : ∃ s, (e.roles ++ [role])[k]? = some s := ⟨_, List.getElem?_eq_getElem (by rw [HlenR.out]; exact hlt1)⟩
        obtain ⟨p, hp⟩ : ∃ p, (e.pls ++ [(-1 : Int)])[k]? = some p := ⟨_, List.getElem?_eq_getElem (by rw [HlenP.out, HlenR.out]; exact hlt1)⟩
        have hp1 := Hpl1.out k p hp
        subst hp1
        have hcs : wr.cell? ⟨g, k, none⟩ = some (.string s) := by
          have h4 := Hcells.out k (.string s) (by rw [strs, List.getElem?_map, hs]; rfl)
          have hgl := World.block_lt_of_cell? w4 _ h4
          have hgR : g ≠ R := fun e => by subst e; rw [hR4.nocell] at h4; cases h4
          rw [World.cell?_of_block (frr.block g hgl hgR)]
          exact h4
        obtain ⟨w5, hput, hm5, on5⟩ := run_put Try.underlying69 Try.underlying9 (w := wr.drew) (hmr.of_block rfl) s (.int .i64 (-1))
        rw [zip_take_succ HlenP.out hs hp hnd] at hm5
        have fr5 : Fr (· = R) w4 w5 := frr.drew.only on5 (fun _ => rfl)
        have h51 : w5.cell? ⟨L, 1, none⟩ = some (.int .i64 (-1)) := (on5.cell _).trans hd1
        have h52 : w5.cell? ⟨L, 2, none⟩ = some (.pointer (some ⟨M, 0, none⟩)) := (on5.cell _).trans hd2
        have h53 : w5.cell? ⟨M, 1, none⟩ = some (.map (some R)) := (on5.cell _).trans hdm
        have Hs := hide hs
        have Hp := hide hp
        clear on5 hs hp hmr
        go_wp2_with fail
        go_region_held3 (fun w' => w'.cell? ⟨L, 1, none⟩ = some (.int .i64 (-1)) ∧ w'.cell? ⟨L, 2, none⟩ = some (.pointer (some ⟨M, 0, none⟩)) ∧ w'.cell? ⟨M, 1, none⟩ = some (.map (some R)))
          (first | exact ⟨hd1, hd2, hdm⟩ | exact ⟨h51, h52, h53⟩)
          ((go_at_call 46; refine (placeAt_un L _ _ (by exact hd1)).mono ?_; rintro en w' ⟨rfl, rfl⟩))
        go_wp2_with fail
        go_roundw
        case rel => exact ⟨k + 1, by omega, by go_num, hm5, fr5⟩
        case measure => simp [intOf]; omega
      · have hk1 : k = n + 1 := by omega
        rw [hk1, List.take_of_length_le (by rw [HlenR.out]; omega), List.take_of_length_le (by rw [HlenP.out, HlenR.out]; omega)] at hmr
        have hgm5 : MapIs wr gm l := hm4.of_block (frr.block gm hm4.lt hgmR)
        obtain ⟨w6, hput, hm6, on6⟩ := run_put Try.underlying28 Try.underlying9 hgm5 name (entV (.slice (some ⟨g, 0, none⟩) (n + 1) cap) (-1) (some ⟨M, 0, none⟩))
        have fr6 : Fr (fun k => k = gm ∨ own k) w w6 := by
          refine Fr.only ?_ on6 (fun _ => .inl rfl)
          exact fr4.trans2 (frr.mono2 (fun k hk h => by exfalso; have := HR.out; omega) fr4.size)
        have hS6 : Sl w6 9 (.slice (some ⟨g, 0, none⟩) (n + 1) cap) (strs (e.roles ++ [role])) := hS4.of_block (fun k hk => by
          obtain ⟨cur, hcur⟩ := hS4.block hk
          rw [on6.block k (fun e => by subst e; exact nomap hS4 hk hm4), frr.block k (Array.getElem?_eq_some_iff.1 hcur).1 (fun e => by subst e; exact nomap hS4 hk hR4)])
        have hM6 : w6.heap[M]? = some (.cells #[.slice none 0 0, .map (some R)] 71 (0, 0)) := by rw [on6.block M (fun e => hgmM e.symm)]; exact hMr
        have hR6 : MapIs w6 R ((e.roles ++ [role]).zip (ints (e.pls ++ [-1]))) := hmr.of_block (on6.block R (fun e => hgmR e.symm))
        unfold entV at hput
        clear on6 hgm5 hmr frr
        have hkn : ¬ (k : Int) < (n : Int) + 1 := by omega
        clear hk1 hlt1
        go_wp2_with fail
        go_end0
        refine ⟨rfl, _, some ⟨M, 0, none⟩, hm6, ⟨hS6, ?_, ?_, ?_, ?_, ?_, ?_, ?_⟩, fr6⟩
        · intro k hk
          simp [Value.ownBlock] at hk
          subst hk
          rcases hg2 with h | h
          · exact .inl (rownW _ h.symm)
          · exact .inr h
        · simp
        · simp [lenE]
        · rw [List.getElem?_append_left (by omega)]; exact firstE
        · intro h; cases h
        · intro h p hp
          simp only [List.mem_append, List.mem_singleton] at hp
          rcases hp with hp | hp
          · exact noE.out trivial p hp
          · exact hp
        · exact ⟨M, .slice none 0 0, some R, rfl, .inr HM.out, hM6, Sl.nil _ _, fun k hk => by simp [Value.ownBlock] at hk, fun h => by have := HlenR.out; simp at h this; omega, fun _ => ⟨R, rfl, .inr HR.out, hR6⟩, ⟨fun _ => by have := Hl.out; simp; omega, fun h => by cases h⟩⟩

end Go.Proofs.Qxb6000628a
