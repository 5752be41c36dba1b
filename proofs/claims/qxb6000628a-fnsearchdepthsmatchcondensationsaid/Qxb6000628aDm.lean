/-
  The search's state in memory; one name reached (func 55).
-/
import Derived.Test.Qxb6000628aSettle
import Derived.Test.Qxb6000628aLaw1L
import Derived.BigRegion
set_option linter.unusedVariables false
namespace Go.Proofs.Qxb6000628a
open Go.RowKit

/-- A world with one block laid anew. -/
def setObj (w : World) (r : Nat) (o : Obj) : World := { w with heap := w.heap.setIfInBounds r o }

theorem setObj_drew (w : World) (r : Nat) (o : Obj) : (setObj w r o).drew = setObj w.drew r o := rfl

theorem run_put2 {P : Program} {w : World} {t k e : TypeId} {r : Nat} {l : List (ByteArray × Value)} (ht : P.underlying t = some (.map k e)) (hk : P.underlying k = some .string) (h : MapIs w r l) (s : ByteArray) (v : Value) :
    ∃ o : Obj, (∀ w' : World, w'.heap = w.heap → (Instr.mapUpdate t (.map (some r)) (.string s) v).run P w' = .ok () (setObj w' r o)) ∧ MapIs (setObj w r o) r (mput l s v) ∧ Only r w (setObj w r o) := by
  obtain ⟨es, clock, h1, h2⟩ := h
  rcases findNow_mget es.toList l 0 s h2 with ⟨a1, a2⟩ | ⟨j, u, a1, a2, ⟨e', a3, a4⟩, a5⟩
  · refine ⟨.map (es.push { key := .string s, val := v, born := clock }) (clock + 1), ?_, ⟨_, _, (MapKept.heap_set h1).1, ?_⟩, only_set h1⟩
    · intro w' hw'
      have h1 : w'.heap[r]? = some (.map es clock) := by rw [hw']; exact h1
      simp [Instr.mapUpdate, run_underlying ht, MapKept.run_getObj_map h1, MapKept.run_checkKey hk (k := .string s) trivial, MapKept.run_findKey hk a2, MapKept.run_setObj_map _ h1, Result.andThen, setObj]
    · rw [mput_of_none a1]
      simp [h2]
  · have a3' : es[j]? = some e' := by simpa using a3
    refine ⟨.map (es.modify j fun x => { x with key := .string s, val := v }) clock, ?_, ⟨_, _, (MapKept.heap_set h1).1, ?_⟩, only_set h1⟩
    · intro w' hw'
      have h1 : w'.heap[r]? = some (.map es clock) := by rw [hw']; exact h1
      simp only [Nat.zero_add] at a2
      simp [Instr.mapUpdate, run_underlying ht, MapKept.run_getObj_map h1, MapKept.run_checkKey hk (k := .string s) trivial, MapKept.run_findKey hk a2, a3', a4,
        MapKept.run_keyThatStays (d := .string) (k := .string s) trivial, MapKept.run_setObj_map _ h1, Result.andThen, setObj]
    · rw [a5]
      apply List.ext_getElem?
      intro i
      have h2i := congrArg (fun z => z[i]?) h2
      simp only [List.getElem?_map] at h2i
      simp only [List.getElem?_map, List.getElem?_set, Array.getElem?_toList, Array.getElem?_modify]
      by_cases hij : j = i
      · subst hij
        rw [if_pos rfl, if_pos rfl]
        have hl : j < l.length := by
          have hlen := congrArg List.length h2
          simp only [List.length_map] at hlen
          have := (List.getElem?_eq_some_iff.1 a3).1
          omega
        rw [if_pos hl, a3']
        rfl
      · rw [if_neg hij, if_neg hij]
        simpa using h2i

/-- append onto a slice of one's own, from block 'base' on. -/
theorem wpList_appC {P : Program} {w : World} {ops : Array Oper} {rest : List Oper} {o : Oper} {a : Act} {Q : Exit → Act → World → Prop} (hgd : o.guard = none) (s y : Operand) (t : TypeId)
    (ho : o.op = .call { callee := .builtin .append, args := #[s, y], argTypes := #[t, t] }) (base : Nat)
    {e : TypeId} {i : TypeInfo} {z : Value} {bytes : Nat} (ht : P.underlying t = some (.slice e)) (hi : P.info? e = some i) (hz : i.zero = some z) (hs : i.size = 1) (hby : i.bytes = bytes) (hzs : z.cells.size = 1)
    {v : Value} (n : Nat) {xs : List Value} (hv : a.eval s = v) (h : w.ownsRow base e 1 v n xs) {ad : Addr} {x : Value} {c : Nat} (hy : a.eval y = .slice (some ad) 1 c) (hx : w.cell? ad = some x) (h1 : x.oneCell' = true)
    (hlen : (n + 1) * bytes ≤ 140737488355328) (hmax : n + 1 ≤ maxLen) (hbase : base ≤ w.heap.size)
    (hK : ∀ g cap w', w'.ownsRow base e 1 (.slice (some ⟨g, 0, none⟩) (n + 1) cap) (n + 1) (xs ++ [x]) → w.grownBy w' v.ownBlock → (v.ownBlock = some g ∨ g = w.heap.size) → wpList P ops Q rest (a.put o.dst (.slice (some ⟨g, 0, none⟩) (n + 1) cap)) w') :
    wpList P ops Q (o :: rest) a w := by
  have hnews : ∀ j u, [x][j]? = some u → w.cell? (ad.add j) = some u := by
    intro j u hj
    match j, hj with
    | 0, hj =>
      simp at hj
      subst hj
      simpa [Addr.add] using hx
  refine wpList_append_own_at w hgd s y t ho base e i z 1 bytes ht hi hz hs hby hzs (by decide) v n xs hv h ad 1 c [x] hy rfl hnews (by simpa using h1) hmax hlen hbase ?_
  intro v' w' g1 g2 _ g4
  rcases g1.2 with ⟨_, h0⟩ | ⟨g, cap, cur, rfl, rest'⟩
  · omega
  · exact hK g cap w' g1 g2 (by
      simp only [Value.ownBlock] at g4
      rcases g4 with h | h
      · exact .inl h.symm
      · exact .inr (by simpa using h))

/-- An int at a name. -/
def intV (o : Option Nat) : Option Value := o.map (fun (n : Nat) => Value.int .i64 (n : Int))

/-- The search's struct in memory: the graph lies below block 'W.heap.size'; then the maps of depths, numbers and lows, the struct, and the stack's row. -/
structure Dq (W w : World) (gm : Nat) (sv : Value) (ld li ll : List (ByteArray × Value)) (st : List ByteArray) : Prop where
  bel : Below W.heap.size W w
  blk : w.heap[W.heap.size + 3]? = some (.cells #[.map (some gm), .map (some W.heap.size), .map (some (W.heap.size + 1)), .map (some (W.heap.size + 2)), sv] 78 (0, 0))
  md : MapIs w W.heap.size ld
  mi : MapIs w (W.heap.size + 1) li
  ml : MapIs w (W.heap.size + 2) ll
  row : w.ownsRow (W.heap.size + 4) 9 1 sv st.length (strs st)

/-- The maps, plainly. -/
structure Rel (s : Ts ByteArray) (ld li ll : List (ByteArray × Value)) : Prop where
  d : ∀ v, mget ld v = intV (s.dep v)
  n : li.length = s.n
  i : ∀ v, mget li v = intV (s.idx v)
  l : ∀ v, s.idx v ≠ none → mget ll v = some (.int .i64 (s.low v : Int))

/-- What a step keeps of the memory behind the struct. -/
structure Keeps (B : Nat) (sv sv' : Value) (w w' : World) : Prop where
  size : w.heap.size ≤ w'.heap.size
  own : ∀ b, B ≤ b → b < w.heap.size → sv.ownBlock ≠ some b → w'.heap[b]? = w.heap[b]? ∧ sv'.ownBlock ≠ some b

theorem cellAt_of {w : World} {b : Nat} {cs : Array Value} {t : TypeId} {fz : Nat × Nat} {i : Nat} {v : Value} (h : w.heap[b]? = some (.cells cs t fz)) (hi : cs[i]? = some v) : w.cell? ⟨b, i, none⟩ = some v := by
  simp [World.cell?, h, hi]

section
variable {W w w' : World} {gm : Nat} {sv : Value} {ld li ll : List (ByteArray × Value)} {st : List ByteArray}
theorem Dq.c0 (h : Dq W w gm sv ld li ll st) : w.cell? ⟨W.heap.size + 3, 0, none⟩ = some (.map (some gm)) := cellAt_of h.blk rfl
theorem Dq.c1 (h : Dq W w gm sv ld li ll st) : w.cell? ⟨W.heap.size + 3, 1, none⟩ = some (.map (some W.heap.size)) := cellAt_of h.blk rfl
theorem Dq.c2 (h : Dq W w gm sv ld li ll st) : w.cell? ⟨W.heap.size + 3, 2, none⟩ = some (.map (some (W.heap.size + 1))) := cellAt_of h.blk rfl
theorem Dq.c3 (h : Dq W w gm sv ld li ll st) : w.cell? ⟨W.heap.size + 3, 3, none⟩ = some (.map (some (W.heap.size + 2))) := cellAt_of h.blk rfl
theorem Dq.c4 (h : Dq W w gm sv ld li ll st) : w.cell? ⟨W.heap.size + 3, 4, none⟩ = some sv := cellAt_of h.blk rfl
theorem Dq.fz (h : Dq W w gm sv ld li ll st) : w.frozen? ⟨W.heap.size + 3, 4, none⟩ = false := by simp [World.frozen?, h.blk]
theorem Dq.lt (h : Dq W w gm sv ld li ll st) : W.heap.size + 3 < w.heap.size := (Array.getElem?_eq_some_iff.1 h.blk).1

theorem Only.drew {r : Nat} (h : Only r w w') : Only r w w'.drew := ⟨h.os, h.tape, h.output, h.size, h.block, h.cell, h.frozen⟩

theorem Only.below {r B : Nat} (h : Only r w w') (hB : B ≤ r) : Below B w w' := ⟨h.os, h.tape, h.output, by rw [h.size]; exact Nat.le_refl _, fun k hk => h.block k (by omega)⟩

theorem own_block {base n : Nat} {e : TypeId} {v : Value} {xs : List Value} (h : w.ownsRow base e 1 v n xs) (hb : ∀ k, v.ownBlock = some k → w'.heap[k]? = w.heap[k]?) : w'.ownsRow base e 1 v n xs := by
  refine ⟨h.1, ?_⟩
  rcases h.2 with h | ⟨g, cap, cur, hv, h1, h2, h3⟩
  · exact .inl h
  · exact .inr ⟨g, cap, cur, hv, h1, by rw [hb g (by rw [hv]; rfl)]; exact h2, h3⟩

theorem Dq.only_row {r : Nat} (h : Dq W w gm sv ld li ll st) (hr : r ≤ W.heap.size + 3) (ho : Only r w w') : w'.ownsRow (W.heap.size + 4) 9 1 sv st.length (strs st) :=
  own_block h.row (fun k hk => ho.block k (fun e => by have := (h.row.lt k hk).1; omega))

theorem Dq.putD {ld' : List (ByteArray × Value)} (h : Dq W w gm sv ld li ll st) (hm : MapIs w' W.heap.size ld') (ho : Only W.heap.size w w') : Dq W w' gm sv ld' li ll st :=
  ⟨h.bel.trans (ho.below (Nat.le_refl _)), by rw [ho.block _ (by omega)]; exact h.blk, hm, h.mi.of_block (ho.block _ (by omega)), h.ml.of_block (ho.block _ (by omega)), h.only_row (by omega) ho⟩
theorem Dq.putI {li' : List (ByteArray × Value)} (h : Dq W w gm sv ld li ll st) (hm : MapIs w' (W.heap.size + 1) li') (ho : Only (W.heap.size + 1) w w') : Dq W w' gm sv ld li' ll st :=
  ⟨h.bel.trans (ho.below (by omega)), by rw [ho.block _ (by omega)]; exact h.blk, h.md.of_block (ho.block _ (by omega)), hm, h.ml.of_block (ho.block _ (by omega)), h.only_row (by omega) ho⟩
theorem Dq.putL {ll' : List (ByteArray × Value)} (h : Dq W w gm sv ld li ll st) (hm : MapIs w' (W.heap.size + 2) ll') (ho : Only (W.heap.size + 2) w w') : Dq W w' gm sv ld li ll' st :=
  ⟨h.bel.trans (ho.below (by omega)), by rw [ho.block _ (by omega)]; exact h.blk, h.md.of_block (ho.block _ (by omega)), h.mi.of_block (ho.block _ (by omega)), hm, h.only_row (by omega) ho⟩

/-- Other memory turns. -/
theorem Dq.other (h : Dq W w gm sv ld li ll st) (hb : Below W.heap.size w w') (hk : ∀ k, k < w.heap.size → (k < W.heap.size + 4 ∨ sv.ownBlock = some k) → w'.heap[k]? = w.heap[k]?) : Dq W w' gm sv ld li ll st := by
  have hlt := h.lt
  exact ⟨h.bel.trans hb, by rw [hk _ h.lt (.inl (by omega))]; exact h.blk, h.md.of_block (hk _ (by omega) (.inl (by omega))), h.mi.of_block (hk _ (by omega) (.inl (by omega))), h.ml.of_block (hk _ (by omega) (.inl (by omega))),
    own_block h.row (fun k hk' => hk k (h.row.lt k hk').2 (.inr hk'))⟩

theorem Dq.below (h : Dq W w gm sv ld li ll st) (hb : Below w.heap.size w w') : Dq W w' gm sv ld li ll st :=
  h.other (hb.mono (by have := h.lt; omega)) (fun k hk _ => hb.block k hk)

/-- The struct's stack is laid anew. -/
theorem Dq.setStack {sv' : Value} {st' : List ByteArray} (h : Dq W w gm sv ld li ll st) (hr : w.ownsRow (W.heap.size + 4) 9 1 sv' st'.length (strs st')) : Dq W (w.setCell ⟨W.heap.size + 3, 4, none⟩ sv') gm sv' ld li ll st' := by
  have hb : ∀ k, k ≠ W.heap.size + 3 → (w.setCell ⟨W.heap.size + 3, 4, none⟩ sv').heap[k]? = w.heap[k]? := fun k hk => Below.heap_setCell _ _ _ _ hk
  refine ⟨h.bel.setCell (by show W.heap.size ≤ W.heap.size + 3; omega) _, ?_, h.md.of_block (hb _ (by omega)), h.mi.of_block (hb _ (by omega)), h.ml.of_block (hb _ (by omega)), own_block hr (fun k hk => hb k (fun e => by have := (hr.lt k hk).1; omega))⟩
  simp [World.setCell, Array.getElem?_modify, h.blk]
end

set_option maxHeartbeats 2000000 in
set_option maxRecDepth 100000 in
theorem reach55 (W w : World) (gm : Nat) (sv : Value) (ld li ll : List (ByteArray × Value)) (st : List ByteArray) (name : ByteArray) (n : Nat) (D : Dq W w gm sv ld li ll st) (hlen : li.length = n) (hr : mget li name = none) (hs : st.length ≤ 65536) :
    Calls Try.prog 55 #[.pointer (some ⟨W.heap.size + 3, 0, none⟩), .string name] w fun e w' => e = .returned (.tuple #[]) ∧ ∃ sv', Dq W w' gm sv' ld (mput li name (.int .i64 (n : Int))) (mput ll name (.int .i64 (n : Int))) (st ++ [name]) ∧ Keeps (W.heap.size + 4) sv sv' w w' := by
  have c2 := D.c2
  obtain ⟨ol, hol, hmi2, only2⟩ := run_put2 Try.underlying69 Try.underlying9 D.mi name (.int .i64 (n : Int))
  have hmlen : (Builtin.len_ #[69] 3 #[.map (some (W.heap.size + 1))]).run Try.prog w.drew = .ok (.int .i64 (n : Int)) w.drew := by
    have := run_mlen Try.underlying69 (show MapIs w.drew (W.heap.size + 1) li from D.mi) 3
    rw [hlen] at this
    exact this
  have hol1 := hol w.drew rfl
  clear hol hlen
  have Do : Dq W (setObj w.drew (W.heap.size + 1) ol) gm sv ld (mput li name (.int .i64 (n : Int))) ll st := D.putI (show MapIs (setObj w.drew (W.heap.size + 1) ol) _ _ from hmi2) (show Only _ w (setObj w.drew (W.heap.size + 1) ol) from only2.drew)
  have hsz : w.heap.size ≤ (setObj w.drew (W.heap.size + 1) ol).heap.size := Nat.le_of_eq only2.drew.size.symm
  have hbk : ∀ b, W.heap.size + 4 ≤ b → (setObj w.drew (W.heap.size + 1) ol).heap[b]? = w.heap[b]? := fun b hb => only2.drew.block b (by omega)
  clear hmi2 only2
  go_enter Try.func55, Try.ntmps55
  go_wp2_with fail
  go_region
  generalize setObj w.drew (W.heap.size + 1) ol = w1 at *
  clear hol1 hmlen c2
  have c2 := Do.c2
  have c3 := Do.c3
  obtain ⟨o2, hol, hml2, only3⟩ := run_put2 Try.underlying69 Try.underlying9 Do.ml name (.int .i64 (n : Int))
  have hput := hol w1.drew rfl
  have hlook := run_look Try.underlying69 Try.underlying9 (show MapIs w1.drew (W.heap.size + 1) _ from Do.mi) (s := name) (v := .int .i64 (n : Int)) (by rw [mget_mput, if_pos rfl]) false
  simp only [Bool.false_eq_true, if_false] at hlook
  have D2 : Dq W (setObj w1.drew (W.heap.size + 2) o2) gm sv ld (mput li name (.int .i64 (n : Int))) (mput ll name (.int .i64 (n : Int))) st := Do.putL (show MapIs (setObj w1.drew (W.heap.size + 2) o2) _ _ from hml2) (show Only _ w1 (setObj w1.drew (W.heap.size + 2) o2) from only3.drew)
  have hsz2 : w.heap.size ≤ (setObj w1.drew (W.heap.size + 2) o2).heap.size := Nat.le_trans hsz (Nat.le_of_eq only3.drew.size.symm)
  have hbk2 : ∀ b, W.heap.size + 4 ≤ b → (setObj w1.drew (W.heap.size + 2) o2).heap[b]? = w.heap[b]? := fun b hb => (only3.drew.block b (by omega)).trans (hbk b hb)
  clear hol hml2 only3 Do hbk
  go_wp2_with fail
  go_region
  generalize setObj w1.drew (W.heap.size + 2) o2 = w2 at *
  clear hput hlook c2 c3
  have c4 := D2.c4
  have f4 := D2.fz
  have lt4 := D2.lt
  obtain ⟨i9, gi, gz0, gz1, gz2⟩ := info_parts Try.info9
  go_wp2_with (at_builtin; go_must (refine wpList_appC (xs := strs st) (x := .string name) rfl _ _ 22 rfl (W.heap.size + 4) Try.underlying22 gi gz0 gz1 gz2 rfl st.length rfl ?hown rfl ?hx rfl ?hl ?hm ?hb ?hK))
  case hown => exact D2.row.alloc _
  case hx => exact cellAt_of (cs := #[.string name]) (t := 9) (fz := (0, 0)) (Go.Deep.blk_alloc_new _ _) rfl
  case hl => omega
  case hm => unfold maxLen; omega
  case hb => have : (w2.alloc (.cells #[.string name] 9)).heap.size = w2.heap.size + 1 := by simp
             omega
  case hK =>
    intro g' cap' wn hown' hgr hgo
    have hne : some (W.heap.size + 3) ≠ sv.ownBlock := fun e => by have := (D2.row.lt _ e.symm).1; omega
    have hs3 : (w2.alloc (.cells #[.string name] 9)).heap.size = w2.heap.size + 1 := by simp
    have hblk : ∀ k, k < w2.heap.size → some k ≠ sv.ownBlock → wn.heap[k]? = w2.heap[k]? := fun k hk hk' => (hgr.block k (by omega) hk').trans (Below.heap_alloc _ _ _ hk)
    have hwn : w2.heap.size + 1 ≤ wn.heap.size := by have := hgr.size; omega
    have c4' : wn.cell? ⟨W.heap.size + 3, 4, none⟩ = some sv := (World.cell?_of_block (hblk _ lt4 hne)).trans c4
    have f4' : wn.frozen? ⟨W.heap.size + 3, 4, none⟩ = false := (World.frozen?_of_block (hblk _ lt4 hne)).trans f4
    have hst : ∀ k, k < W.heap.size + 4 → wn.heap[k]? = w2.heap[k]? := fun k hk => hblk k (by omega) (fun e => by have := (D2.row.lt _ e.symm).1; omega)
    have bel2 : Below W.heap.size w2 wn := ⟨hgr.os, hgr.tape, hgr.output, by omega, fun k hk => hst k (by omega)⟩
    have hgb := hown'.lt g' rfl
    have hDf : Dq W (wn.setCell ⟨W.heap.size + 3, 4, none⟩ (.slice (some ⟨g', 0, none⟩) (st.length + 1) cap')) gm (.slice (some ⟨g', 0, none⟩) (st.length + 1) cap') ld (mput li name (.int .i64 (n : Int))) (mput ll name (.int .i64 (n : Int))) (st ++ [name]) := by
      have hb : ∀ k, k ≠ W.heap.size + 3 → (wn.setCell ⟨W.heap.size + 3, 4, none⟩ (.slice (some ⟨g', 0, none⟩) (st.length + 1) cap')).heap[k]? = wn.heap[k]? := fun k hk => Below.heap_setCell _ _ _ _ hk
      refine ⟨(D2.bel.trans bel2).setCell (by show W.heap.size ≤ W.heap.size + 3; omega) _, ?_, D2.md.of_block ((hb _ (by omega)).trans (hst _ (by omega))), D2.mi.of_block ((hb _ (by omega)).trans (hst _ (by omega))), D2.ml.of_block ((hb _ (by omega)).trans (hst _ (by omega))), ?_⟩
      · have := (hst (W.heap.size + 3) (by omega)).trans D2.blk
        simp [World.setCell, Array.getElem?_modify, this]
      · have : w2.heap.size ≤ wn.heap.size := by omega
        have h5 := own_block (w' := wn.setCell ⟨W.heap.size + 3, 4, none⟩ (.slice (some ⟨g', 0, none⟩) (st.length + 1) cap')) hown' (fun k hk => hb k (fun e => by have := (hown'.lt k hk).1; omega))
        simpa [strs] using h5
    have hKp : Keeps (W.heap.size + 4) sv (.slice (some ⟨g', 0, none⟩) (st.length + 1) cap') w (wn.setCell ⟨W.heap.size + 3, 4, none⟩ (.slice (some ⟨g', 0, none⟩) (st.length + 1) cap')) := by
      refine ⟨by simp [World.setCell]; omega, fun b hb hlt hne' => ⟨?_, ?_⟩⟩
      · rw [Below.heap_setCell _ _ _ _ (by show b ≠ W.heap.size + 3; omega), hblk b (by omega) (fun e => hne' e.symm), hbk2 b hb]
      · show some g' ≠ some b
        rcases hgo with h | h
        · exact fun e => hne' (h.trans e)
        · intro e
          have : g' = b := by simpa using e
          omega
    clear hgr hown' D2
    go_wp2_with fail
    go_end0
    exact ⟨rfl, _, hDf, hKp⟩

end Go.Proofs.Qxb6000628a
