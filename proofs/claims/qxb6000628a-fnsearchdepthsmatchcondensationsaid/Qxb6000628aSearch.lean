/-
  The search (func 53): the walk.
-/
import Derived.Test.Qxb6000628aPath
import Derived.Deep.DeepCutAuto
import Derived.Deep.CutBlock
import Derived.StillTailTactics
set_option linter.unusedVariables false
namespace Go.Proofs.Qxb6000628a
open Go.RowKit

/-- The search in the middle: its state, its path (from the bottom up), and both in memory. -/
structure Sx (W w : World) (gm : Nat) (E : List Ent) (T M : ByteArray → Prop) (s : Ts ByteArray) (ps : List ByteArray) (sv : Value) (ld li ll : List (ByteArray × Value)) (gp k capp : Nat) : Prop where
  dq : Dq W w gm sv ld li ll s.stack
  rel : Rel s ld li ll
  inv : Inv (rolesIn E) T s ps.reverse
  sur : Sur s
  must : ∀ v, M v → s.idx v ≠ none
  len : ps.length = k
  row : w.ownsRow (W.heap.size + 4) 96 2 (.slice (some ⟨gp, 0, none⟩) k capp) k (steps s.pr ps)
  apart : sv.ownBlock ≠ some gp

def SP (W : World) (gm : Nat) (E : List Ent) (T M : ByteArray → Prop) (U : List ByteArray) (N : Nat) (pv : Value) (w : World) : Prop :=
  ∃ gp k capp, pv = .slice (some ⟨gp, 0, none⟩) k capp ∧ ∃ s ps sv ld li ll, Sx W w gm E T M s ps sv ld li ll gp k capp ∧ mu (rolesIn E) U s ps.reverse = N

theorem zero96 (w : World) : (zeroValue 96).run Try.prog w = .ok (.agg #[.string ByteArray.empty, .int .i64 0]) w := by kernel_rfl

theorem Sx.top {W w : World} {gm : Nat} {E : List Ent} {T M : ByteArray → Prop} {s : Ts ByteArray} {ps : List ByteArray} {sv : Value} {ld li ll : List (ByteArray × Value)} {gp k capp : Nat} (h : Sx W w gm E T M s ps sv ld li ll gp (k + 1) capp) :
    ∃ ps' p, ps = ps' ++ [p] ∧ ps'.length = k ∧ w.cell? ⟨gp, k * 2, none⟩ = some (.string p) ∧ w.cell? ⟨gp, k * 2 + 1, none⟩ = some (.int .i64 (s.pr p : Int)) ∧ w.frozen? ⟨gp, k * 2 + 1, none⟩ = false := by
  have hl := h.len
  have hne : ps ≠ [] := by rintro rfl; simp at hl
  obtain ⟨ps', p, rfl⟩ : ∃ ps' p, ps = ps' ++ [p] := ⟨ps.dropLast, ps.getLast hne, (List.dropLast_concat_getLast hne).symm⟩
  have hl' : ps'.length = k := by simpa using hl
  have hs : steps s.pr (ps' ++ [p]) = steps s.pr ps' ++ [.string p, .int .i64 (s.pr p : Int)] := by rw [steps_append]; rfl
  have hsl := steps_length s.pr ps'
  refine ⟨ps', p, rfl, hl', ?_, ?_, h.row.frozenAt _⟩
  · rw [h.row.cellAt (k * 2) (by omega), hs, List.getElem?_append_right (by omega)]
    simp [hsl, hl']
  · rw [h.row.cellAt (k * 2 + 1) (by omega), hs, List.getElem?_append_right (by omega)]
    simp [hsl, hl']

theorem own_blockS {w w' : World} {base n sz : Nat} {e : TypeId} {v : Value} {xs : List Value} (h : w.ownsRow base e sz v n xs) (hb : ∀ k, v.ownBlock = some k → w'.heap[k]? = w.heap[k]?) : w'.ownsRow base e sz v n xs := by
  refine ⟨h.1, ?_⟩
  rcases h.2 with h | ⟨g, cap, cur, hv, h1, h2, h3⟩
  · exact .inl h
  · exact .inr ⟨g, cap, cur, hv, h1, by rw [hb g (by rw [hv]; rfl)]; exact h2, h3⟩

/-- append of a pair of cells onto a row of one's own. -/
theorem wpList_app2 {P : Program} {w : World} {ops : Array Oper} {rest : List Oper} {o : Oper} {a : Act} {Q : Exit → Act → World → Prop} (hgd : o.guard = none) (s y : Operand) (t : TypeId)
    (ho : o.op = .call { callee := .builtin .append, args := #[s, y], argTypes := #[t, t] }) (base : Nat)
    {e : TypeId} {i : TypeInfo} {z : Value} {bytes : Nat} (ht : P.underlying t = some (.slice e)) (hi : P.info? e = some i) (hz : i.zero = some z) (hs : i.size = 2) (hby : i.bytes = bytes) (hzs : z.cells.size = 2)
    {v : Value} (n : Nat) {xs : List Value} (hv : a.eval s = v) (h : w.ownsRow base e 2 v n xs) {b : Nat} {x1 x2 : Value} {c : Nat} (hy : a.eval y = .slice (some ⟨b, 0, none⟩) 1 c) (hx1 : w.cell? ⟨b, 0, none⟩ = some x1) (hx2 : w.cell? ⟨b, 1, none⟩ = some x2) (h1 : x1.oneCell' = true) (h2 : x2.oneCell' = true)
    (hlen : (n + 1) * bytes ≤ 140737488355328) (hmax : n + 1 ≤ maxLen) (hbase : base ≤ w.heap.size)
    (hK : ∀ g cap w', w'.ownsRow base e 2 (.slice (some ⟨g, 0, none⟩) (n + 1) cap) (n + 1) (xs ++ [x1, x2]) → w.grownBy w' v.ownBlock → (v.ownBlock = some g ∨ g = w.heap.size) → wpList P ops Q rest (a.put o.dst (.slice (some ⟨g, 0, none⟩) (n + 1) cap)) w') :
    wpList P ops Q (o :: rest) a w := by
  have hnews : ∀ j u, [x1, x2][j]? = some u → w.cell? ((⟨b, 0, none⟩ : Addr).add j) = some u := by
    intro j u hj
    match j, hj with
    | 0, hj =>
      simp at hj
      subst hj
      simpa [Addr.add] using hx1
    | 1, hj =>
      simp at hj
      subst hj
      simpa [Addr.add] using hx2
  refine wpList_append_own_at w hgd s y t ho base e i z 2 bytes ht hi hz hs hby hzs (by decide) v n xs hv h ⟨b, 0, none⟩ 1 c [x1, x2] hy rfl hnews (by simp [h1, h2]) hmax hlen hbase ?_
  intro v' w' g1 g2 _ g4
  rcases g1.2 with ⟨_, h0⟩ | ⟨g, cap, cur, rfl, rest'⟩
  · omega
  · exact hK g cap w' g1 g2 (by
      simp only [Value.ownBlock] at g4
      rcases g4 with h | h
      · exact .inl h.symm
      · exact .inr (by simpa using h))

theorem row_name {w : World} {base gp k capp : Nat} {pr : ByteArray → Nat} {ps' : List ByteArray} {p : ByteArray} (h : w.ownsRow base 96 2 (.slice (some ⟨gp, 0, none⟩) (k + 1) capp) (k + 1) (steps pr (ps' ++ [p]))) (hl : ps'.length = k) : w.cell? ⟨gp, k * 2, none⟩ = some (.string p) := by
  have hs : steps pr (ps' ++ [p]) = steps pr ps' ++ [.string p, .int .i64 (pr p : Int)] := by rw [steps_append]; rfl
  have hsl := steps_length pr ps'
  rw [h.cellAt (k * 2) (by omega), hs, List.getElem?_append_right (by omega)]
  simp [hsl, hl]

theorem Dq.grown {W w w' : World} {gm gp : Nat} {sv : Value} {ld li ll : List (ByteArray × Value)} {st : List ByteArray} (h : Dq W w gm sv ld li ll st) (hg : w.grownBy w' (some gp)) (hb : W.heap.size + 4 ≤ gp) (ha : sv.ownBlock ≠ some gp) : Dq W w' gm sv ld li ll st := by
  have hlt := h.lt
  refine h.other ⟨hg.os, hg.tape, hg.output, hg.size, fun k hk => hg.block k (by omega) (fun e => by have : k = gp := by simpa using e
                                                                                                     omega)⟩ (fun k hk hk' => hg.block k hk (fun e => ?_))
  have e : k = gp := by simpa using e
  subst e
  rcases hk' with h1 | h1
  · omega
  · exact ha h1

theorem Sx.bump {W w : World} {gm : Nat} {E : List Ent} {T M : ByteArray → Prop} {s : Ts ByteArray} {ps' : List ByteArray} {p : ByteArray} {sv : Value} {ld li ll : List (ByteArray × Value)} {gp k capp : Nat} (h : Sx W w gm E T M s (ps' ++ [p]) sv ld li ll gp (k + 1) capp) (hl : ps'.length = k) (hp : ∀ q ∈ ps', q ≠ p) :
    Dq W (w.setCell ⟨gp, k * 2 + 1, none⟩ (.int .i64 ((s.pr p : Int) + 1))) gm sv ld li ll s.stack ∧
    (w.setCell ⟨gp, k * 2 + 1, none⟩ (.int .i64 ((s.pr p : Int) + 1))).ownsRow (W.heap.size + 4) 96 2 (.slice (some ⟨gp, 0, none⟩) (k + 1) capp) (k + 1) (steps (s.next p).pr (ps' ++ [p])) ∧
    w.grownBy (w.setCell ⟨gp, k * 2 + 1, none⟩ (.int .i64 ((s.pr p : Int) + 1))) (some gp) := by
  obtain ⟨h1, h2⟩ := h.row.stored (k * 2 + 1) (.int .i64 ((s.pr p : Int) + 1))
  have hb : W.heap.size + 4 ≤ gp := (h.row.lt gp rfl).1
  refine ⟨h.dq.grown h2 hb h.apart, ?_, h2⟩
  have hsl := steps_length s.pr ps'
  have e1 : steps (s.next p).pr ps' = steps s.pr ps' := steps_congr (fun v hv => upd_other _ _ (hp v hv))
  have e2 : (s.next p).pr p = s.pr p + 1 := upd_same _ _ _
  have : (steps s.pr (ps' ++ [p])).set (k * 2 + 1) (.int .i64 ((s.pr p : Int) + 1)) = steps (s.next p).pr (ps' ++ [p]) := by
    rw [steps_append, steps_append, e1, List.set_append_right _ _ (by omega)]
    congr 1
    have : k * 2 + 1 - (steps s.pr ps').length = 1 := by omega
    rw [this]
    simp [steps, e2]
  rw [this] at h1
  exact h1

theorem wpList_put0 {P : Program} {w : World} {ops : Array Oper} {o : Oper} {a : Act} {Q : Exit → Act → World → Prop} (hg : o.guard = none) (hd : o.dst = none) (m x y : Operand) (t : TypeId) (hop : o.op = Op.mapUpdate t m x y)
    {w' : World} (hrun : (Instr.mapUpdate t (a.eval m) (a.eval x) (a.eval y)).run P w = .ok () w') (hK : Q .normal a w') : wpList P ops Q [o] a w := by
  refine wpList_put hg m x y t hop hrun (wpList_nil ?_)
  rw [hd]
  exact hK

theorem row_cap {w : World} {base e gp n capp sz : Nat} {xs : List Value} (h : w.ownsRow base e sz (.slice (some ⟨gp, 0, none⟩) n capp) n xs) : n ≤ capp := by
  rcases h.2 with ⟨h1, _⟩ | ⟨g', cap', cur, hv, h1, h2, h3, h4, h5, h6⟩
  · cases h1
  · injection hv with hv1 hv2 hv3
    omega

theorem row_pop {w : World} {base gp k capp : Nat} {pr : ByteArray → Nat} {ps' : List ByteArray} {p : ByteArray} (h : w.ownsRow base 96 2 (.slice (some ⟨gp, 0, none⟩) (k + 1) capp) (k + 1) (steps pr (ps' ++ [p]))) (hl : ps'.length = k) : w.ownsRow base 96 2 (.slice (some ⟨gp, 0, none⟩) k capp) k (steps pr ps') := by
  have hsl := steps_length pr ps'
  refine ⟨by rw [hsl]; omega, ?_⟩
  rcases h.2 with ⟨h1, _⟩ | ⟨g', cap', cur, hv, h1, h2, h3, h4, h5, h6⟩
  · cases h1
  · injection hv with hv1 hv2 hv3
    injection hv1 with hv1
    injection hv1 with hv1
    subst hv1 hv3
    refine .inr ⟨_, _, cur, rfl, h1, h2, by omega, h4, h5, ?_⟩
    have : steps pr ps' = (steps pr (ps' ++ [p])).take (k * 2) := by
      rw [steps_append, List.take_left' (by omega)]
    rw [this, ← h6, List.take_take]
    congr 1
    omega

theorem lower_same (s : Ts ByteArray) (q : ByteArray) (m : Nat) (h : min (s.low q) m = s.low q) : s.lower q m = s := by
  have : upd s.low q (min (s.low q) m) = s.low := by
    funext v
    by_cases e : v = q
    · subst e; rw [upd_same, h]
    · rw [upd_other _ _ e]
  show Ts.mk _ _ _ _ _ _ = _
  rw [this]

set_option maxHeartbeats 8000000 in
set_option maxRecDepth 100000 in
theorem search53 (W w : World) (gm B0 : Nat) (own : Nat → Nat) (E : List Ent) (T M : ByteArray → Prop) (U : List ByteArray) (s0 : Ts ByteArray) (sv : Value) (ld li ll : List (ByteArray × Value)) (name : ByteArray)
    (hG : Graph W gm B0 false own E) (D : Dq W w gm sv ld li ll s0.stack) (R : Rel s0 ld li ll) (I : Inv (rolesIn E) T s0 []) (S : Sur s0) (hT : ∀ u, T u → ∀ v ∈ rolesIn E u, T v) (hU : ∀ v, T v → v ∈ U) (hUl : U.length ≤ 256)
    (hrl : ∀ v, (rolesIn E v).length ≤ 65536) (hT0 : T name) (hi : s0.idx name = none) (hM : ∀ v, M v → v = name ∨ s0.idx v ≠ none) :
    Calls Try.prog 53 #[.pointer (some ⟨W.heap.size + 3, 0, none⟩), .string name] w fun e w' => e = .returned (.tuple #[]) ∧ ∃ s sv' ld' li' ll', Dq W w' gm sv' ld' li' ll' s.stack ∧ Rel s ld' li' ll' ∧ Inv (rolesIn E) T s [] ∧ Sur s ∧ ∀ v, M v → s.idx v ≠ none := by
  obtain ⟨least, hleast⟩ := exists_least
  have hrev : ∀ (p : ByteArray) (ps' : List ByteArray), (ps' ++ [p]).reverse = p :: ps'.reverse := fun p ps' => by simp
  have HL := hide hleast
  clear hleast
  have I1 := I.reach hi hT0 (by simp)
  have S1 := S.reach hi
  have R1 := R.reach hi
  have hn := I.n_le S hU
  have hsl := I.stack_len
  have hempty := I.empty
  have hM1 : ∀ v, M v → (s0.reach name).idx v ≠ none := by
    intro v hv
    rcases hM v hv with e | h
    · rw [e]
      have : (s0.reach name).idx name = some s0.n := upd_same _ _ _
      rw [this]; simp
    · have : (s0.reach name).idx v = s0.idx v := upd_other _ _ (fun e => h (e ▸ hi))
      rw [this]; exact h
  have hpr0 : (s0.reach name).pr name = 0 := I.pr0 name hi
  have hreach := reach55 W w gm sv ld li ll s0.stack name s0.n D R.n (by rw [R.i, hi]; rfl) (by omega)
  have hstk : (s0.reach name).stack = s0.stack ++ [name] := rfl
  rw [← hstk] at hreach
  have Hr := hide hreach
  have HI1 := hide I1
  have HS1 := hide S1
  have HR1 := hide R1
  have HM1 := hide hM1
  have Hp := hide hpr0
  generalize s0.reach name = s1 at *
  clear hreach I1 S1 R1 hM1 hpr0 I S R D hM hstk hempty
  have hz96 := zero96
  go_enter Try.func53, Try.ntmps53
  go_wp2_with fail
  refine Hr.out.mono ?_
  rintro e w1 ⟨rfl, sv1, D1, K1⟩
  have HD1 := hide D1
  have hlt1 := D1.lt
  clear Hr K1
  go_wp2_with fail
  go_loopw [4] (fun pv wr => ∃ N, SP W gm E T M U N pv wr) (fun pv wr => least (fun N => SP W gm E T M U N pv wr))
  case atStart =>
    refine ⟨_, w1.heap.size, 1, 1, rfl, s1, [name], sv1, _, _, _, ⟨HD1.out.below ((Below.refl _ _).alloc (Nat.le_refl _) _), HR1.out, HI1.out, HS1.out, HM1.out, rfl, ?_, ?_⟩, rfl⟩
    · have := World.ownsRow_lit (base := W.heap.size + 4) (e := 96) (size := 2) w1 #[.string name, .int .i64 0] 1 (by omega) (by unfold maxLen; omega) rfl
      have hst : steps s1.pr [name] = [.string name, .int .i64 0] := by simp [steps, Hp.out]
      rw [hst]
      exact this
    · intro e
      have := (HD1.out.row.lt _ e).2
      omega
  case round =>
    clear HD1 HR1 HI1 HS1 HM1 Hp hlt1
    obtain ⟨⟨gp, k, capp, rfl, s, ps, sv, ld, li, ll, X, hmu⟩, hmin⟩ := HL.out _ hrel
    have HX := hide X
    have Hmu := hide hmu
    clear hrel hmin hmu X
    cases k with
    | zero =>
      go_wp2_with fail
      go_end0
      have hps : ps = [] := List.eq_nil_of_length_eq_zero HX.out.len
      subst hps
      exact ⟨rfl, s, sv, ld, li, ll, HX.out.dq, HX.out.rel, HX.out.inv, HX.out.sur, HX.out.must⟩
    | succ k =>
      obtain ⟨ps', p, hps, hpl, cN, cP, fP⟩ := HX.out.top
      subst hps
      have hI : Inv (rolesIn E) T s (p :: ps'.reverse) := by rw [← hrev p ps']; exact HX.out.inv
      have HI := hide hI
      have hnU := hI.n_le HX.out.sur hU
      have hkn : k + 1 ≤ s.n := by have h1 := hI.path_len; simp at h1; omega
      have c0 := HX.out.dq.c0
      have c1 := HX.out.dq.c1
      have c2 := HX.out.dq.c2
      have hGw := hG.below HX.out.dq.bel
      obtain ⟨r, hr⟩ : ∃ r, (rolesIn E p).length = r := ⟨_, rfl⟩
      obtain ⟨X, c, ad, fr, hRl, hfr, hcall⟩ := roles44d gm B0 false own E p r wr hGw hr
      have hrb : r ≤ 65536 := by rw [← hr]; exact hrl p
      have HRl := hide hRl
      have Hfr := hide hfr
      have Hcall := hide hcall
      have Hr := hide hr
      clear hRl hfr hcall hr hGw hI
      go_wp2_with fail
      go_quiet ((go_at_call 44; exact Calls.quiet_of_same (Hcall.out _ rfl)))
      have HX2 : Hid (Sx W (wr.drewN nq) gm E T M s (ps' ++ [p]) sv ld li ll gp (k + 1) capp) := ⟨HX.out.dq.below (Dr.mk' _ _), HX.out.rel, HX.out.inv, HX.out.sur, HX.out.must, HX.out.len, HX.out.row, HX.out.apart⟩
      have HRl2 : Hid (Rl (wr.drewN nq) X r c ad fr) := ⟨HRl.out.idx, HRl.out.cell⟩
      have cN2 : (wr.drewN nq).cell? ⟨gp, k * 2, none⟩ = some (.string p) := cN
      have cP2 : (wr.drewN nq).cell? ⟨gp, k * 2 + 1, none⟩ = some (.int .i64 (s.pr p : Int)) := cP
      have fP2 : (wr.drewN nq).frozen? ⟨gp, k * 2 + 1, none⟩ = false := fP
      clear HX HRl cN cP fP c0 c1 c2 Hcall
      generalize wr.drewN nq = w2 at *
      have hpn : Hid (∀ q ∈ ps', q ≠ p) := fun q hq => HI.out.top_notin q (List.mem_reverse.2 hq)
      by_cases hlt : s.pr p < r
      · have hrole := hide (Hfr.out _ hlt)
        have it := HRl2.out.idx _ hlt
        have ct := HRl2.out.cell _ hlt
        generalize fr (s.pr p) = ρ at *
        clear Hfr HRl2
        obtain ⟨D3, row3, gr3⟩ := HX2.out.bump hpl hpn.out
        have hl1 := look_int D3.mi (HX2.out.rel.i ρ)
        have hl2 := look_int D3.md (HX2.out.rel.d ρ)
        have c1 := D3.c1
        have c2 := D3.c2
        have HD3 := hide D3
        have Hrow3 := hide row3
        clear D3 row3 gr3
        cases hidx : s.idx ρ with
        | none =>
          have Hidx := hide hidx
          rw [hidx] at hl1
          simp only [Option.getD_none, Option.isSome_none] at hl1
          clear hidx
          go_wp2_with fail
          have hsl := HI.out.stack_len
          refine (reach55 W _ gm sv ld li ll s.stack ρ s.n HD3.out HX2.out.rel.n (by rw [HX2.out.rel.i, Hidx.out]; rfl) (by omega)).mono ?_
          rintro e w4 ⟨rfl, sv4, D4, K4⟩
          have hgp := Hrow3.out.lt gp rfl
          have hk4 := K4.own gp hgp.1 hgp.2 HX2.out.apart
          have row4 := own_blockS (w' := w4) Hrow3.out (fun b hb => by
            have : b = gp := by simpa [Value.ownBlock] using hb.symm
            subst this; exact hk4.1)
          have lt4 := D4.lt
          have gp4 := (row4.lt gp rfl).2
          have ht := turn_new (U := U) HI.out hT hU hrole.out Hidx.out
          obtain ⟨i96, gi, gz0, gz1, gz2⟩ := info_parts Try.info96
          have HD4 := hide D4
          have Hrow4 := hide row4
          have Hap4 := hide hk4.2
          clear K4 D4 row4 hk4 hl1 hl2 it ct c1 c2 cN2 cP2 fP2 hgp
          go_wp2_with (at_builtin; go_must (refine wpList_app2 (xs := steps (s.next p).pr (ps' ++ [p])) (x1 := .string ρ) (x2 := .int .i64 0) rfl _ _ 97 rfl (W.heap.size + 4) Try.underlying97 gi gz0 gz1 gz2 rfl (k + 1) rfl ?hown rfl ?hx1 ?hx2 rfl rfl ?hl ?hm ?hb ?hK))
          case hown => exact Hrow4.out.alloc _
          case hx1 => exact cellAt_of (cs := #[.string ρ, .int .i64 0]) (t := 96) (fz := (0, 0)) (Go.Deep.blk_alloc_new _ _) rfl
          case hx2 => exact cellAt_of (cs := #[.string ρ, .int .i64 0]) (t := 96) (fz := (0, 0)) (Go.Deep.blk_alloc_new _ _) rfl
          case hl => omega
          case hm => unfold maxLen; omega
          case hb => have : (w4.alloc (.cells #[.string ρ, .int .i64 0] 96)).heap.size = w4.heap.size + 1 := by simp
                     omega
          case hK =>
            intro g' cap' w5 hown' hgr hgo
            have hsz5 : (w4.alloc (.cells #[.string ρ, .int .i64 0] 96)).heap.size = w4.heap.size + 1 := by simp
            have D5 : Dq W w5 gm sv4 ld (mput li ρ (.int .i64 (s.n : Int))) (mput ll ρ (.int .i64 (s.n : Int))) (s.stack ++ [ρ]) :=
              (HD4.out.below ((Below.refl _ _).alloc (Nat.le_refl _) (.cells #[.string ρ, .int .i64 0] 96))).grown hgr (by have := (Hrow4.out.lt gp rfl).1; exact this) Hap4.out
            have ap5 : sv4.ownBlock ≠ some g' := by
              rcases hgo with h | h
              · have : gp = g' := by simpa [Value.ownBlock] using h
                rw [← this]; exact Hap4.out
              · intro e
                have := (HD4.out.row.lt g' e).2
                omega
            have hpr0 : ((s.reach ρ).next p).pr ρ = 0 := by
              have h1 : ((s.reach ρ).next p).pr ρ = s.pr ρ := upd_other _ _ (fun e => by
                have h2 := ((HI.out.stk p).1 (HI.out.pst p List.mem_cons_self)).1
                rw [← e] at h2
                exact h2 Hidx.out)
              rw [h1]; exact HI.out.pr0 ρ Hidx.out
            have hS : SP W gm E T M U (mu (rolesIn E) U ((s.reach ρ).next p) (ps' ++ [p] ++ [ρ]).reverse) (.slice (some ⟨g', 0, none⟩) (k + 1 + 1) cap') w5 :=
              ⟨g', k + 1 + 1, cap', rfl, (s.reach ρ).next p, ps' ++ [p] ++ [ρ], sv4, _, _, _, ⟨D5, (HX2.out.rel.reach Hidx.out).next p, by rw [hrev ρ, hrev p]; exact ht.1, HX2.out.sur.reach Hidx.out, fun v hv => by
                  by_cases e : v = ρ
                  · have : (s.reach ρ).idx v = some s.n := by rw [e]; exact upd_same _ _ _
                    show (s.reach ρ).idx v ≠ none
                    rw [this]; simp
                  · have : (s.reach ρ).idx v = s.idx v := upd_other _ _ e
                    show (s.reach ρ).idx v ≠ none
                    rw [this]; exact HX2.out.must v hv, by have := HX2.out.len; simp at this ⊢; omega, by
                  have e1 : steps ((s.reach ρ).next p).pr (ps' ++ [p] ++ [ρ]) = steps (s.next p).pr (ps' ++ [p]) ++ [.string ρ, .int .i64 0] := by
                    rw [steps_append]
                    have : steps ((s.reach ρ).next p).pr [ρ] = [.string ρ, .int .i64 0] := by simp [steps, hpr0]
                    rw [this]
                    rfl
                  rw [e1]; exact hown', ap5⟩, rfl⟩
            clear hgr hown'
            go_wp2_with fail
            exact ⟨⟨_, hS⟩, Nat.lt_of_le_of_lt ((HL.out (fun N => SP W gm E T M U N _ _) ⟨_, hS⟩).2 _ hS) (by rw [← Hmu.out, hrev ρ, hrev p]; exact ht.2)⟩
        | some i =>
          have Hidx := hide hidx
          rw [hidx] at hl1
          simp only [Option.getD_some, Option.isSome_some] at hl1
          clear hidx
          cases hdep : s.dep ρ with
          | none =>
            have Hdep := hide hdep
            rw [hdep] at hl2
            simp only [Option.getD_none, Option.isSome_none] at hl2
            clear hdep
            go_wp2_with fail
            have ht := turn_low (U := U) HI.out hrole.out (by rw [Hidx.out]; simp) Hdep.out
            generalize w2.setCell ⟨gp, k * 2 + 1, none⟩ (.int .i64 ((s.pr p : Int) + 1)) = w3 at *
            have hpi : s.idx p ≠ none := ((HI.out.stk p).1 (HI.out.pst p List.mem_cons_self)).1
            have hixρ : s.ix ρ = i := by simp [Ts.ix, Hidx.out]
            have hgpb := (Hrow3.out.lt gp rfl).1
            have cN3 := row_name Hrow3.out hpl
            have c3 := HD3.out.c3
            have hk1 := look_int1 (show MapIs w3.drew (W.heap.size + 2) ll from HD3.out.ml) (HX2.out.rel.l p hpi)
            have hk2 := look_int1 (show MapIs w3.drew (W.heap.size + 1) li from HD3.out.mi) (s := ρ) (n := i) (by rw [HX2.out.rel.i, Hidx.out]; rfl)
            clear hl1 hl2 cN2 cP2 fP2 it ct
            by_cases hlo : i < s.low p
            · skip
              have hcmp : (i : Int) < (s.low p : Int) := by omega
              have hmin : min (s.low p) (s.ix ρ) = i := by rw [hixρ]; omega
              obtain ⟨o, hput0, hmN, only⟩ := run_put2 Try.underlying69 Try.underlying9 HD3.out.ml p (.int .i64 (i : Int))
              have hput := hput0 w3.drew rfl
              have hDn := hide (HD3.out.putL (show MapIs (setObj w3.drew (W.heap.size + 2) o) _ _ from hmN) (show Only _ w3 (setObj w3.drew (W.heap.size + 2) o) from only.drew))
              have hrown := hide (own_blockS (w' := setObj w3.drew (W.heap.size + 2) o) Hrow3.out (fun b hb => only.block b (by
                have : b = gp := by simpa [Value.ownBlock] using hb.symm
                omega)))
              clear hput0 hmN only
              go_still_tail 24, (by kernel_rfl)
              change wpList _ _ _ _ _ w3.drew
              refine wpList_put0 rfl rfl _ _ _ 69 rfl hput ?_
              generalize setObj w3.drew (W.heap.size + 2) o = w4 at *
              go_wp2_with fail
              have hS : SP W gm E T M U (mu (rolesIn E) U ((s.lower p (s.ix ρ)).next p) (ps' ++ [p]).reverse) (.slice (some ⟨gp, 0, none⟩) (k + 1) capp) w4 :=
                ⟨gp, k + 1, capp, rfl, (s.lower p (s.ix ρ)).next p, ps' ++ [p], sv, ld, li, _, ⟨hDn.out, by have := (HX2.out.rel.lower p (s.ix ρ)).next p; rw [hmin] at this; exact this, by rw [hrev p ps']; exact ht.1, HX2.out.sur, HX2.out.must, HX2.out.len, hrown.out, HX2.out.apart⟩, rfl⟩
              exact ⟨⟨_, hS⟩, Nat.lt_of_le_of_lt ((HL.out (fun N => SP W gm E T M U N _ _) ⟨_, hS⟩).2 _ hS) (by rw [← Hmu.out, hrev p ps']; exact ht.2)⟩
            · skip
              have hcmp : ¬ (i : Int) < (s.low p : Int) := by omega
              have hmin : min (s.low p) (s.ix ρ) = s.low p := by rw [hixρ]; omega
              obtain ⟨o, hput0, hmN, only⟩ := run_put2 Try.underlying69 Try.underlying9 HD3.out.ml p (.int .i64 (s.low p : Int))
              have hput := hput0 w3.drew rfl
              have hDn := hide (HD3.out.putL (show MapIs (setObj w3.drew (W.heap.size + 2) o) _ _ from hmN) (show Only _ w3 (setObj w3.drew (W.heap.size + 2) o) from only.drew))
              have hrown := hide (own_blockS (w' := setObj w3.drew (W.heap.size + 2) o) Hrow3.out (fun b hb => only.block b (by
                have : b = gp := by simpa [Value.ownBlock] using hb.symm
                omega)))
              clear hput0 hmN only
              go_still_tail 24, (by kernel_rfl)
              change wpList _ _ _ _ _ w3.drew
              refine wpList_put0 rfl rfl _ _ _ 69 rfl hput ?_
              generalize setObj w3.drew (W.heap.size + 2) o = w4 at *
              go_wp2_with fail
              have hS : SP W gm E T M U (mu (rolesIn E) U ((s.lower p (s.ix ρ)).next p) (ps' ++ [p]).reverse) (.slice (some ⟨gp, 0, none⟩) (k + 1) capp) w4 :=
                ⟨gp, k + 1, capp, rfl, (s.lower p (s.ix ρ)).next p, ps' ++ [p], sv, ld, li, _, ⟨hDn.out, by have := (HX2.out.rel.lower p (s.ix ρ)).next p; rw [hmin] at this; exact this, by rw [hrev p ps']; exact ht.1, HX2.out.sur, HX2.out.must, HX2.out.len, hrown.out, HX2.out.apart⟩, rfl⟩
              exact ⟨⟨_, hS⟩, Nat.lt_of_le_of_lt ((HL.out (fun N => SP W gm E T M U N _ _) ⟨_, hS⟩).2 _ hS) (by rw [← Hmu.out, hrev p ps']; exact ht.2)⟩
          | some d =>
            have Hdep := hide hdep
            rw [hdep] at hl2
            simp only [Option.getD_some, Option.isSome_some] at hl2
            clear hdep
            go_wp2_with fail
            have ht := turn_skip (U := U) HI.out hrole.out (by rw [Hdep.out]; simp)
            have hS : SP W gm E T M U (mu (rolesIn E) U (s.next p) (ps' ++ [p]).reverse) (.slice (some ⟨gp, 0, none⟩) (k + 1) capp) (w2.setCell ⟨gp, k * 2 + 1, none⟩ (.int .i64 ((s.pr p : Int) + 1))) :=
              ⟨gp, k + 1, capp, rfl, s.next p, ps' ++ [p], sv, ld, li, ll, ⟨HD3.out, HX2.out.rel.next p, by rw [hrev p ps']; exact ht.1, HX2.out.sur, HX2.out.must, HX2.out.len, Hrow3.out, HX2.out.apart⟩, rfl⟩
            exact ⟨⟨_, hS⟩, Nat.lt_of_le_of_lt ((HL.out (fun N => SP W gm E T M U N _ _) ⟨_, hS⟩).2 _ hS) (by rw [← Hmu.out, hrev p ps']; exact ht.2)⟩
      · have hcap := row_cap HX2.out.row
        have hpi : s.idx p ≠ none := ((HI.out.stk p).1 (HI.out.pst p List.mem_cons_self)).1
        have hk1 : ∀ n, (Instr.lookup 69 (.map (some (W.heap.size + 2))) (.string p) false).run Try.prog (w2.drewN n) = .ok (.int .i64 (s.low p : Int)) (w2.drewN n) := fun n => look_int1 (show MapIs (w2.drewN n) _ _ from HX2.out.dq.ml) (HX2.out.rel.l p hpi)
        have hk2 : ∀ n, (Instr.lookup 69 (.map (some (W.heap.size + 1))) (.string p) false).run Try.prog (w2.drewN n) = .ok (.int .i64 (s.ix p : Int)) (w2.drewN n) := fun n => look_int1 (show MapIs (w2.drewN n) _ _ from HX2.out.dq.mi) (s := p) (n := s.ix p) (by
          rw [HX2.out.rel.i]
          cases he : s.idx p with
          | none => exact absurd he hpi
          | some i => simp [Ts.ix, he, intV])
        have c2 := HX2.out.dq.c2
        have c3 := HX2.out.dq.c3
        clear hpi HRl2 Hfr
        have hrow' := hide (row_pop HX2.out.row hpl)
        have hdone : (rolesIn E p).length ≤ s.pr p := by rw [Hr.out]; omega
        have Hdone := hide hdone
        clear hdone
        by_cases hlow : s.low p = s.ix p
        · have hcmp : (s.low p : Int) = (s.ix p : Int) := by omega
          have Hlow := hide hlow
          clear hlow
          go_wp2_with fail
          go_quiet (fail)
          have HX4 : Hid (Sx W (w2.drewN nq) gm E T M s (ps' ++ [p]) sv ld li ll gp (k + 1) capp) := ⟨HX2.out.dq.below (Dr.mk' _ _), HX2.out.rel, HX2.out.inv, HX2.out.sur, HX2.out.must, HX2.out.len, HX2.out.row, HX2.out.apart⟩
          have hrow4 : Hid ((w2.drewN nq).ownsRow (W.heap.size + 4) 96 2 (.slice (some ⟨gp, 0, none⟩) k capp) k (steps s.pr ps')) := hrow'.out
          clear HX2 hrow' c2 c3 hk1 hk2 cN2 cP2 fP2
          generalize w2.drewN nq = w4 at *
          go_wp2_with fail
          obtain ⟨kk, hkk⟩ : ∃ kk, s.stack[kk]? = some p := List.mem_iff_getElem?.1 (HI.out.pst p List.mem_cons_self)
          have hsl := HI.out.stack_len
          refine (settle56 W w4 gm B0 own E sv ld li ll s.stack p kk s.dep HX4.out.dq hG HX4.out.rel.d hkk (fun j hj => HI.out.unique hj hkk) (by omega) (fun v e he => by
            have := HI.out.bound U (fun v hv => hU v (HI.out.tt v (HI.out.cov v hv))) he
            omega) hrl).mono ?_
          rintro e w5 ⟨rfl, sv5, ld5, D5, K5, hd5⟩
          have ht := turn_settle (U := U) HI.out Hdone.out Hlow.out hkk
          have Ht := hide ht
          have hgp := hrow4.out.lt gp rfl
          have hk5 := K5.own gp hgp.1 hgp.2 HX4.out.apart
          have hrow5 := own_blockS (w' := w5) hrow4.out (fun b hb => by
            have : b = gp := by simpa [Value.ownBlock] using hb.symm
            subst this; exact hk5.1)
          have X5 : Sx W w5 gm E T M (s.settle kk (best (rolesIn E) s.dep 0 (s.stack.drop kk))) ps' sv5 ld5 li ll gp k capp :=
            ⟨D5, HX4.out.rel.settle hd5, Ht.out.1, HX4.out.sur, HX4.out.must, hpl, hrow5, hk5.2⟩
          have HX5 := hide X5
          clear ht K5 D5 hd5 hk5 hrow5 X5 hrow4 hcmp
          cases k with
          | zero =>
            have hnil : ps' = [] := List.eq_nil_of_length_eq_zero hpl
            subst hnil
            have hS : SP W gm E T M U (mu (rolesIn E) U (s.settle kk (best (rolesIn E) s.dep 0 (s.stack.drop kk))) ([] : List ByteArray).reverse) (.slice (some ⟨gp, 0, none⟩) 0 capp) w5 :=
              ⟨gp, 0, capp, rfl, _, [], sv5, ld5, li, ll, HX5.out, rfl⟩
            go_wp2_with fail
            exact ⟨⟨_, hS⟩, Nat.lt_of_le_of_lt ((HL.out (fun N => SP W gm E T M U N _ _) ⟨_, hS⟩).2 _ hS) (by rw [← Hmu.out, hrev p []]; exact Ht.out.2)⟩
          | succ k =>
            obtain ⟨ps'', q, rfl, hpl2, cN5, -, -⟩ := HX5.out.top
            have hsl2 := settle_low (q := q) (rest' := ps''.reverse) (by rw [← hrev q ps'']; exact HI.out) Hlow.out
            have hq1 : (s.settle kk (best (rolesIn E) s.dep 0 (s.stack.drop kk))).idx q ≠ none := by
              have h1 := HI.out
              rw [hrev q ps''] at h1
              exact ((h1.stk q).1 (h1.pst q (List.mem_cons_of_mem _ List.mem_cons_self))).1
            have hp1 : (s.settle kk (best (rolesIn E) s.dep 0 (s.stack.drop kk))).idx p ≠ none := ((HI.out.stk p).1 (HI.out.pst p List.mem_cons_self)).1
            have hk1 := look_int1 (show MapIs w5.drew (W.heap.size + 2) ll from HX5.out.dq.ml) (n := s.low q) (HX5.out.rel.l q hq1)
            have hk2 := look_int1 (show MapIs w5.drew (W.heap.size + 2) ll from HX5.out.dq.ml) (n := s.low p) (HX5.out.rel.l p hp1)
            have c3 := HX5.out.dq.c3
            have hcmp : ¬ (s.low p : Int) < (s.low q : Int) := by omega
            have hcmpN : ¬ s.low p < s.low q := by omega
            obtain ⟨o, hput0, hmN, only⟩ := run_put2 Try.underlying69 Try.underlying9 HX5.out.dq.ml q (.int .i64 (s.low q : Int))
            have hput := hput0 w5.drew rfl
            have hDn := hide (HX5.out.dq.putL (show MapIs (setObj w5.drew (W.heap.size + 2) o) _ _ from hmN) (show Only _ w5 (setObj w5.drew (W.heap.size + 2) o) from only.drew))
            have hgpb := (HX5.out.row.lt gp rfl).1
            have hrown := hide (own_blockS (w' := setObj w5.drew (W.heap.size + 2) o) HX5.out.row (fun b hb => only.block b (by
              have : b = gp := by simpa [Value.ownBlock] using hb.symm
              omega)))
            have hsame := lower_same (s.settle kk (best (rolesIn E) s.dep 0 (s.stack.drop kk))) q (s.low p) hsl2
            have hrel := HX5.out.rel.lower q (s.low p)
            rw [hsame, show min ((s.settle kk (best (rolesIn E) s.dep 0 (s.stack.drop kk))).low q) (s.low p) = s.low q from hsl2] at hrel
            have Hrel := hide hrel
            clear hput0 hmN only hsame hrel hsl2 hq1 hp1
            go_wp2_with fail
            go_still_tail 18, (by kernel_rfl)
            change wpList _ _ _ _ _ w5.drew
            refine wpList_put0 rfl rfl _ _ _ 69 rfl hput ?_
            generalize setObj w5.drew (W.heap.size + 2) o = w6 at *
            go_wp2_with fail
            have hS : SP W gm E T M U (mu (rolesIn E) U (s.settle kk (best (rolesIn E) s.dep 0 (s.stack.drop kk))) (ps'' ++ [q]).reverse) (.slice (some ⟨gp, 0, none⟩) (k + 1) capp) w6 :=
              ⟨gp, k + 1, capp, rfl, _, ps'' ++ [q], sv5, ld5, li, _, ⟨hDn.out, Hrel.out, HX5.out.inv, HX5.out.sur, HX5.out.must, HX5.out.len, hrown.out, HX5.out.apart⟩, rfl⟩
            exact ⟨⟨_, hS⟩, Nat.lt_of_le_of_lt ((HL.out (fun N => SP W gm E T M U N _ _) ⟨_, hS⟩).2 _ hS) (by rw [← Hmu.out, hrev p (ps'' ++ [q])]; exact Ht.out.2)⟩
        · have hcmp : ¬ (s.low p : Int) = (s.ix p : Int) := by omega
          have Hlow := hide hlow
          obtain ⟨q, rest', hre⟩ := low_path HI.out hlow
          clear hlow
          obtain ⟨ps'', rfl⟩ : ∃ ps'', ps' = ps'' ++ [q] := ⟨rest'.reverse, by rw [← List.reverse_reverse ps', hre]; simp⟩
          obtain ⟨k, rfl⟩ : ∃ k', k = k' + 1 := ⟨ps''.length, by simpa using hpl.symm⟩
          clear hre
          go_wp2_with fail
          go_quiet (fail)
          have HX4 : Hid (Sx W (w2.drewN nq) gm E T M s (ps'' ++ [q] ++ [p]) sv ld li ll gp (k + 1 + 1) capp) := ⟨HX2.out.dq.below (Dr.mk' _ _), HX2.out.rel, HX2.out.inv, HX2.out.sur, HX2.out.must, HX2.out.len, HX2.out.row, HX2.out.apart⟩
          have hrow4 : Hid ((w2.drewN nq).ownsRow (W.heap.size + 4) 96 2 (.slice (some ⟨gp, 0, none⟩) (k + 1) capp) (k + 1) (steps s.pr (ps'' ++ [q]))) := hrow'.out
          clear HX2 hrow' c2 c3 hk1 hk2 cN2 cP2 fP2
          generalize w2.drewN nq = w5 at *
          have hI2 : Inv (rolesIn E) T s (p :: q :: ps''.reverse) := by rw [← hrev q ps'']; exact HI.out
          have ht := turn_pop (U := U) hI2 Hdone.out Hlow.out
          have Ht := hide ht
          have hq1 : s.idx q ≠ none := ((hI2.stk q).1 (hI2.pst q (List.mem_cons_of_mem _ List.mem_cons_self))).1
          have hp1 : s.idx p ≠ none := ((hI2.stk p).1 (hI2.pst p List.mem_cons_self)).1
          have hk1 := look_int1 (show MapIs w5.drew (W.heap.size + 2) ll from HX4.out.dq.ml) (n := s.low q) (HX4.out.rel.l q hq1)
          have hk2 := look_int1 (show MapIs w5.drew (W.heap.size + 2) ll from HX4.out.dq.ml) (n := s.low p) (HX4.out.rel.l p hp1)
          have c3 := HX4.out.dq.c3
          have cN5 := row_name hrow4.out (by simpa using hpl)
          have hgpb := (hrow4.out.lt gp rfl).1
          have hrel := hide (HX4.out.rel.lower q (s.low p))
          clear ht hI2 hq1 hp1
          go_wp2_with fail
          clear hcmp
          by_cases hlo : s.low p < s.low q
          · have hcmp : (s.low p : Int) < (s.low q : Int) := by omega
            have hmin : min (s.low q) (s.low p) = s.low p := by omega
            obtain ⟨o, hput0, hmN, only⟩ := run_put2 Try.underlying69 Try.underlying9 HX4.out.dq.ml q (.int .i64 (s.low p : Int))
            have hput := hput0 w5.drew rfl
            have hDn := hide (HX4.out.dq.putL (show MapIs (setObj w5.drew (W.heap.size + 2) o) _ _ from hmN) (show Only _ w5 (setObj w5.drew (W.heap.size + 2) o) from only.drew))
            have hrown := hide (own_blockS (w' := setObj w5.drew (W.heap.size + 2) o) hrow4.out (fun b hb => only.block b (by
              have : b = gp := by simpa [Value.ownBlock] using hb.symm
              omega)))
            clear hput0 hmN only
            go_still_tail 18, (by kernel_rfl)
            change wpList _ _ _ _ _ w5.drew
            refine wpList_put0 rfl rfl _ _ _ 69 rfl hput ?_
            generalize setObj w5.drew (W.heap.size + 2) o = w6 at *
            go_wp2_with fail
            have hS : SP W gm E T M U (mu (rolesIn E) U (s.lower q (s.low p)) (ps'' ++ [q]).reverse) (.slice (some ⟨gp, 0, none⟩) (k + 1) capp) w6 :=
              ⟨gp, k + 1, capp, rfl, s.lower q (s.low p), ps'' ++ [q], sv, ld, li, _, ⟨hDn.out, by have := hrel.out; rw [hmin] at this; exact this, by rw [hrev q ps'']; exact Ht.out.1, HX4.out.sur, HX4.out.must, hpl, hrown.out, HX4.out.apart⟩, rfl⟩
            exact ⟨⟨_, hS⟩, Nat.lt_of_le_of_lt ((HL.out (fun N => SP W gm E T M U N _ _) ⟨_, hS⟩).2 _ hS) (by rw [← Hmu.out, hrev p (ps'' ++ [q]), hrev q ps'']; exact Ht.out.2)⟩
          · have hcmp : ¬ (s.low p : Int) < (s.low q : Int) := by omega
            have hmin : min (s.low q) (s.low p) = s.low q := by omega
            obtain ⟨o, hput0, hmN, only⟩ := run_put2 Try.underlying69 Try.underlying9 HX4.out.dq.ml q (.int .i64 (s.low q : Int))
            have hput := hput0 w5.drew rfl
            have hDn := hide (HX4.out.dq.putL (show MapIs (setObj w5.drew (W.heap.size + 2) o) _ _ from hmN) (show Only _ w5 (setObj w5.drew (W.heap.size + 2) o) from only.drew))
            have hrown := hide (own_blockS (w' := setObj w5.drew (W.heap.size + 2) o) hrow4.out (fun b hb => only.block b (by
              have : b = gp := by simpa [Value.ownBlock] using hb.symm
              omega)))
            clear hput0 hmN only
            go_still_tail 18, (by kernel_rfl)
            change wpList _ _ _ _ _ w5.drew
            refine wpList_put0 rfl rfl _ _ _ 69 rfl hput ?_
            generalize setObj w5.drew (W.heap.size + 2) o = w6 at *
            go_wp2_with fail
            have hS : SP W gm E T M U (mu (rolesIn E) U (s.lower q (s.low p)) (ps'' ++ [q]).reverse) (.slice (some ⟨gp, 0, none⟩) (k + 1) capp) w6 :=
              ⟨gp, k + 1, capp, rfl, s.lower q (s.low p), ps'' ++ [q], sv, ld, li, _, ⟨hDn.out, by have := hrel.out; rw [hmin] at this; exact this, by rw [hrev q ps'']; exact Ht.out.1, HX4.out.sur, HX4.out.must, hpl, hrown.out, HX4.out.apart⟩, rfl⟩
            exact ⟨⟨_, hS⟩, Nat.lt_of_le_of_lt ((HL.out (fun N => SP W gm E T M U N _ _) ⟨_, hS⟩).2 _ hS) (by rw [← Hmu.out, hrev p (ps'' ++ [q]), hrev q ps'']; exact Ht.out.2)⟩

end Go.Proofs.Qxb6000628a
