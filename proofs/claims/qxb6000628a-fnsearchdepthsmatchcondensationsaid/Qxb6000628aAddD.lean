/-
  addLink onto a name that is there, with a place.
-/
import Derived.Test.Qxb6000628aAddC
import Derived.Deep.RegionLaw
import Derived.Deep.DeepCutAuto
set_option linter.unusedVariables false
namespace Go.Proofs.Qxb6000628a
open Go.RowKit

/-- append in a region that draws its order, by what it comes to. -/
theorem step_app {P : Program} {ops : Array Oper} {o : Oper} {a : Act} {w w' : World} {v' : Value} {K : Act → World → Prop} {Q : Exit → Act → World → Prop} {E : Prop}
    (hg : o.guard = none) (s x : Operand) (t ty : TypeId) (hop : o.op = Op.call { callee := Callee.builtin Builtin.append, args := #[s, x], argTypes := #[t, t] }) (hty : o.type = ty)
    (hrun : (Builtin.append_ #[t, t] ty #[a.eval s, a.eval x]).run P w = .ok v' w') (hK : K (a.put o.dst v') w') :
    if Region.wanted o (yielded ops a.tmps) = true then Oper.wp P o a w K Q else E := by
  have hw : Region.wanted o (yielded ops a.tmps) = true := by simp [Region.wanted, hg]
  rw [if_pos hw]
  subst hty
  unfold Oper.wp
  simp [execOp, hop, resolve, invoke, builtin, hrun, Result.andThen]
  exact hK

/-- placeAt of an entry with places. -/
theorem placeAt_any (L m pg N cap : Nat) (pls : List Int) (at0 p : Int) (k : Nat) (w : World) (hk : pls[k]? = some p) (h0 : pls[0]? = some at0) (hat : at0 ≠ -1) (hN : N = pls.length - 1) (hbd : pls.length ≤ 1000001)
    (h : w.cell? ⟨L, 1, none⟩ = some (.int .i64 at0)) (h2 : w.cell? ⟨L, 2, none⟩ = some (.pointer (some ⟨m, 0, none⟩))) (h3 : w.cell? ⟨m, 0, none⟩ = some (.slice (some ⟨pg, 0, none⟩) N cap))
    (hc : ∀ (i : Nat) (u : Value), (ints (pls.drop 1))[i]? = some u → w.cell? ⟨pg, i, none⟩ = some u) :
    Calls Try.prog 46 #[.pointer (some ⟨L, 0, none⟩), .int .i64 (k : Int)] w fun en w' => en = .returned (.int .i64 p) ∧ w' = w := by
  cases k with
  | zero =>
    rw [h0] at hk
    injection hk with hk
    subst hk
    exact placeAt_zero L at0 w h
  | succ i =>
    have hi : i + 1 < pls.length := (List.getElem?_eq_some_iff.1 hk).1
    have hcell : w.cell? ⟨pg, 0 + i, none⟩ = some (.int .i64 p) := by
      rw [Nat.zero_add]
      refine hc i _ ?_
      have e1 : (List.drop 1 pls)[i]? = some p := by rw [List.getElem?_drop, Nat.add_comm]; exact hk
      simp only [ints, List.getElem?_map, e1]
      rfl
    have := placeAt_more L m pg 0 cap N i at0 p w h h2 h3 hat (by omega) (by omega) hcell
    simpa using this

set_option maxHeartbeats 2000000 in
set_option maxRecDepth 100000 in
/-- A name that is there, with a place, two roles or more already. -/
theorem add_placed (gm b : Nat) (name role : ByteArray) (l : List (ByteArray × Value)) (own : Nat → Prop) (placed : Bool) (e : Ent) (ra : Option Addr) (n rc : Nat) (at0 at_ : Int) (m : Nat) (w : World) (hm : MapIs w gm l) (hb : w.heap[b]? = some (.cells #[.string name, .string role] 9 (0, 0)))
    (ho : ∀ k, own k → k < w.heap.size) (hgo : ¬ own gm) (hn : mget l name = some (entV (.slice ra n rc) at0 (some ⟨m, 0, none⟩))) (he : EntAt w own placed e (.slice ra n rc) at0 (some ⟨m, 0, none⟩)) (hlen : e.roles.length = n) (hpl : placed = true) (h2 : 2 ≤ n) (hbd : n ≤ 1000000) (hat : at_ ≠ -1) (hnd : (e.roles ++ [role]).Nodup) :
    Calls Try.prog 43 #[.map (some gm), .slice (some ⟨b, 0, none⟩) 2 2, .int .i64 at_] w fun en w' => en = .returned (.tuple #[]) ∧ ∃ rv' mo', MapIs w' gm (mput l name (entV rv' at0 mo')) ∧
      EntAt w' (fun k => own k ∨ w.heap.size ≤ k) placed { e with roles := e.roles ++ [role], pls := e.pls ++ [at_] } rv' at0 mo' ∧ Fr (fun k => k = gm ∨ own k) w w' := by
  subst hpl
  have hatb : (at_ != -1) = true := by simpa using hat
  have c0 : w.cell? ⟨b, 0, none⟩ = some (.string name) := by simp [World.cell?, hb]
  have c1 : w.cell? ⟨b, 1, none⟩ = some (.string role) := by simp [World.cell?, hb]
  have Hn := hide hn
  have Hl := hide hlen
  obtain ⟨i9, hi, hz0, hz1, hz2⟩ := info_parts Try.info9
  have hlenS : Hid ((strs e.roles).length = n) := by show _ = _; rw [← hlen]; simp [strs]
  clear hb hn hlen
  go_enter Try.func43, Try.ntmps43
  go_wp2_with fail
  go_quiet (fail)
  have hmW : MapIs (w.drewN nq) gm l := hm.of_block rfl
  have frW : Fr (fun k => k = gm ∨ own k) w (w.drewN nq) := (Fr.refl _ w).drewN nq
  have heW : EntAt (w.drewN nq) own true e (.slice ra n rc) at0 (some ⟨m, 0, none⟩) := he.mono (fun _ _ => rfl) (fun _ h => h)
  have hoW : ∀ k, own k → k < (w.drewN nq).heap.size := ho
  have szW : Hid ((w.drewN nq).heap.size = w.heap.size) := rfl
  generalize w.drewN nq = W at *
  clear hm c0 c1 he
  have hl := run_look Try.underlying28 Try.underlying9 hmW Hn.out true
  simp only [if_true, entV] at hl
  have hne : ∀ k, (Value.slice ra n rc).ownBlock = some k → k < W.heap.size := fun k hk => hoW k (heW.rown k hk)
  have hSl : Sl ((W.alloc (.cells #[.slice ra n rc, .int .i64 at0, .pointer (some ⟨m, 0, none⟩)] 67)).alloc (.cells #[.string role] 9)) 9 (.slice ra n rc) (strs e.roles) :=
    heW.roles.of_block (fun k hk => by rw [Go.Deep.blk_alloc_lt _ _ _ (by simp; have := hne k hk; omega), Go.Deep.blk_alloc_lt _ _ _ (hne k hk)])
  go_wp2_with (at_builtin; go_must (refine wpList_app (xs := strs e.roles) (x := .string role) rfl _ _ 22 rfl Try.underlying22 hi hz0 hz1 hz2 rfl rfl ?hS rfl ?hx rfl n hlenS.out ?hb1 ?hb2 ?hK))
  case hS => exact hSl
  case hx => simp
  case hb1 => omega
  case hb2 => unfold maxLen; omega
  case hK =>
    intro g cap w1 hS1 hgr hloc
    have hL := loc_app hgr hne
    have hLoc := Loc.of_heap hL
    have hc0 := hLoc.c0
    have hc1 := hLoc.c1
    have hc2 := hLoc.c2
    have hf := hLoc.f
    have hlt := hLoc.lt
    have Hloc := hide hloc
    clear hLoc hloc hSl hl
    have hgL : g ≠ W.heap.size := fun e => by
      rcases Hloc.out with h | h
      · have := hne g h.symm; omega
      · omega
    obtain ⟨w2, hw2⟩ : ∃ w2, w2 = w1.setCell ⟨W.heap.size, 0, none⟩ (.slice (some ⟨g, 0, none⟩) (n + 1) cap) := ⟨_, rfl⟩
    have hL2 : w2.heap[W.heap.size]? = some (.cells #[.slice (some ⟨g, 0, none⟩) (n + 1) cap, .int .i64 at0, .pointer (some ⟨m, 0, none⟩)] 67 (0, 0)) := by
      rw [hw2]; simp [World.setCell, Array.getElem?_modify, hL]
    have hS2 : Sl w2 9 (.slice (some ⟨g, 0, none⟩) (n + 1) cap) (strs e.roles ++ [.string role]) := by
      rw [hw2]
      exact hS1.of_block (fun k hk => Below.heap_setCell _ _ _ _ (by simp [Value.ownBlock] at hk; subst hk; exact hgL))
    have hold : ∀ k, k < W.heap.size → some k ≠ (Value.slice ra n rc).ownBlock → w2.heap[k]? = W.heap[k]? := fun k hk hkr => by
      rw [hw2, Below.heap_setCell _ _ _ _ (by show k ≠ W.heap.size; omega), hgr.block k (by simp; omega) hkr, Go.Deep.blk_alloc_lt _ _ _ (by simp; omega), Go.Deep.blk_alloc_lt _ _ _ hk]
    have fr1 : Fr (fun k => k = gm ∨ own k) w w1 := ((frW.alloc _).alloc _).grown hgr (fun k hk _ => .inr (heW.rown k hk))
    have fr2 : Fr (fun k => k = gm ∨ own k) w w2 := by rw [hw2]; exact fr1.setCell (fun h => by exfalso; have := szW.out; simp at h; omega) _
    have hgmW : gm ≠ W.heap.size := by have := hmW.lt; omega
    have hm2 : MapIs w2 gm l := hmW.of_block (hold gm hmW.lt (fun e => nomap heW.roles e.symm hmW))
    have hg2 : some g = (Value.slice ra n rc).ownBlock ∨ w.heap.size ≤ g := by
      rcases Hloc.out with h | h
      · exact .inl h
      · right; have := szW.out; omega
    have hsz2 : W.heap.size < w2.heap.size := (Array.getElem?_eq_some_iff.1 hL2).1
    have hgd : g < w2.heap.size := by obtain ⟨cur, hcur⟩ := hS2.block (k := g) rfl; exact (Array.getElem?_eq_some_iff.1 hcur).1
    have hltL : w.heap.size ≤ W.heap.size := by have := szW.out; omega
    have rownW := heW.rown
    have posE := heW.pos; have lenE := heW.len; have firstE := heW.first; have noE := hide heW.no; have yesE := hide heW.yes
    have Hw2 := hide hw2
    clear hw2
    obtain ⟨m', pv, rm, hme, hmo, hmb, hpv, hpo, hrm0, hrm, _⟩ := heW.more
    obtain rfl : m' = m := by injection hme with hme; exact hme.symm
    have hpv : Sl W 3 pv (ints (e.pls.drop 1)) := hpv
    obtain ⟨pa, pc, hpve, _, _⟩ := hpv.shape
    have hpl0 : (ints (e.pls.drop 1)).length = n - 1 := by simp [ints, lenE, Hl.out]
    rw [hpl0] at hpve
    subst hpve
    have hmb2 : w2.heap[m']? = some (.cells #[.slice pa (n - 1) pc, .map rm] 71 (0, 0)) := by
      rw [hold m' (hoW m' hmo) (fun e => by obtain ⟨cur, hcur⟩ := heW.roles.block e.symm; exact absurd (ne_types hmb hcur) (by decide))]
      exact hmb
    have hpv2 : Sl w2 3 (.slice pa (n - 1) pc) (ints (e.pls.drop 1)) := hpv.of_block (fun k hk => hold k (hoW k (hpo k hk)) (fun e => by obtain ⟨cur, hcur⟩ := heW.roles.block e.symm; obtain ⟨cur', hcur'⟩ := hpv.block hk; exact absurd (ne_types hcur hcur') (by decide)))
    have hrm2 : 8 < n → ∃ r, rm = some r ∧ own r ∧ MapIs w2 r (e.roles.zip (ints e.pls)) := fun h => by
      obtain ⟨r, r1, r2, r3⟩ := hrm (by rw [Hl.out]; exact h)
      exact ⟨r, r1, r2, r3.of_block (hold r (hoW r r2) (fun e => nomap heW.roles e.symm r3))⟩
    have hrm02 : n ≤ 8 → rm = none := fun h => hrm0 (by rw [Hl.out]; exact h)
    have Hrm2 := hide hrm2
    have Hrm02 := hide hrm02
    have Hpl0 := hide hpl0
    clear hrm2 hrm02 hpl0
    go_wp2_with fail
    rw [← Hw2.out]
    generalize W.heap.size = L at *
    clear hgr hL hc0 hc1 hc2 hf hlt hS1 fr1 frW hmW heW hold hmb hrm hpv hrm0 hme
    have hLoc := Loc.of_heap hL2
    have hc0 := hLoc.c0
    have hc1 := hLoc.c1
    have hc2 := hLoc.c2
    have hlt := hLoc.lt
    have hm0 : w2.cell? ⟨m', 0, none⟩ = some (.slice pa (n - 1) pc) := by simp [World.cell?, hmb2]
    have hmlt : m' < w2.heap.size := (Array.getElem?_eq_some_iff.1 hmb2).1
    obtain ⟨i3, gi, gz0, gz1, gz2⟩ := info_parts Try.info3
    have hpne : ∀ k, (Value.slice pa (n - 1) pc).ownBlock = some k → k < w2.heap.size ∧ k ≠ L ∧ k ≠ m' ∧ k ≠ gm ∧ k ≠ g := fun k hk => by
      obtain ⟨cur, hcur⟩ := hpv2.block hk
      refine ⟨(Array.getElem?_eq_some_iff.1 hcur).1, fun e => ?_, fun e => ?_, fun e => ?_, fun e => ?_⟩
      · subst e; exact absurd (ne_types hL2 hcur) (by decide)
      · subst e; exact absurd (ne_types hmb2 hcur) (by decide)
      · subst e; exact nomap hpv2 hk hm2
      · subst e; obtain ⟨cur', hcur'⟩ := hS2.block (k := k) rfl; exact absurd (ne_types hcur hcur') (by decide)
    obtain ⟨pg, pcap, w3, happ, hpv3, pgr, ploc⟩ := run_app (P := Try.prog) (w := (w2.alloc (.cells #[.int .i64 at_] 3)).drew) (t := 32) (ty := 32) (x := .int .i64 at_) (a := ⟨w2.heap.size, 0, none⟩) (xs := ints (e.pls.drop 1)) (v := .slice pa (n - 1) pc) Try.underlying32 gi gz0 gz1 gz2 rfl
      (hpv2.of_block (fun k hk => Go.Deep.blk_alloc_lt _ _ _ (hpne k hk).1)) (by simp) rfl (by rw [Hpl0.out]; omega) (by rw [Hpl0.out]; unfold maxLen; omega) 1
    rw [Hpl0.out] at happ hpv3
    have hold3 : ∀ k, k < w2.heap.size → some k ≠ (Value.slice pa (n - 1) pc).ownBlock → w3.heap[k]? = w2.heap[k]? := fun k hk hkr => by
      rw [pgr.block k (by simp; omega) hkr]
      exact Go.Deep.blk_alloc_lt _ _ _ hk
    have hL3 : w3.heap[L]? = some (.cells #[.slice (some ⟨g, 0, none⟩) (n + 1) cap, .int .i64 at0, .pointer (some ⟨m', 0, none⟩)] 67 (0, 0)) := by rw [hold3 L hlt (fun e => (hpne L e.symm).2.1 rfl)]; exact hL2
    have hmb3 : w3.heap[m']? = some (.cells #[.slice pa (n - 1) pc, .map rm] 71 (0, 0)) := by rw [hold3 m' hmlt (fun e => (hpne m' e.symm).2.2.1 rfl)]; exact hmb2
    have hLoc3 := Loc.of_heap hL3
    have hd2 := hLoc3.c2
    have hm30 : w3.cell? ⟨m', 0, none⟩ = some (.slice pa (n - 1) pc) := by simp [World.cell?, hmb3]
    have hm3f : w3.frozen? ⟨m', 0, none⟩ = false := by simp [World.frozen?, hmb3]
    have Happ := hide happ
    clear happ
    go_cut [] (fun wx => wx = w3.setCell ⟨m', 0, none⟩ (.slice (some ⟨pg, 0, none⟩) (n - 1 + 1) pcap))
    case first =>
      go_region_law (refine step_app rfl _ _ 32 32 rfl rfl (by exact Happ.out) ?_)
      all_goals (go_wp2_with fail; go_meet; rfl)
    case rest =>
      have hL4 : wc.heap[L]? = some (.cells #[.slice (some ⟨g, 0, none⟩) (n + 1) cap, .int .i64 at0, .pointer (some ⟨m', 0, none⟩)] 67 (0, 0)) := by
        rw [hcut, Below.heap_setCell _ _ _ _ (fun e => by subst e; exact absurd (ne_types hL3 hmb3) (by decide))]; exact hL3
      have hM4 : wc.heap[m']? = some (.cells #[.slice (some ⟨pg, 0, none⟩) (n - 1 + 1) pcap, .map rm] 71 (0, 0)) := by
        rw [hcut]; simp [World.setCell, Array.getElem?_modify, hmb3]
      have hold4 : ∀ k, k < w2.heap.size → some k ≠ (Value.slice pa (n - 1) pc).ownBlock → k ≠ m' → wc.heap[k]? = w2.heap[k]? := fun k hk hkr hkm => by
        rw [hcut, Below.heap_setCell _ _ _ _ hkm]; exact hold3 k hk hkr
      have hm4 : MapIs wc gm l := hm2.of_block (hold4 gm hm2.lt (fun e => (hpne gm e.symm).2.2.2.1 rfl) (fun e => by subst e; obtain ⟨es, c, h1, _⟩ := hm2; rw [hmb2] at h1; cases h1))
      have hS4 : Sl wc 9 (.slice (some ⟨g, 0, none⟩) (n + 1) cap) (strs (e.roles ++ [role])) := by
        rw [strs_snoc]
        refine hS2.of_block (fun k hk => ?_)
        obtain ⟨cur, hcur⟩ := hS2.block hk
        refine hold4 k (Array.getElem?_eq_some_iff.1 hcur).1 (fun e => ?_) (fun e => by subst e; exact absurd (ne_types hmb2 hcur) (by decide))
        obtain ⟨cur', hcur'⟩ := hpv2.block e.symm
        exact absurd (ne_types hcur hcur') (by decide)
      have hdrop : (e.pls ++ [at_]).drop 1 = e.pls.drop 1 ++ [at_] := by rw [List.drop_append_of_le_length (by omega)]
      have hpv4 : Sl wc 3 (.slice (some ⟨pg, 0, none⟩) (n - 1 + 1) pcap) (ints ((e.pls ++ [at_]).drop 1)) := by
        rw [hdrop, ints_snoc]
        refine hpv3.of_block (fun k hk => ?_)
        obtain ⟨cur, hcur⟩ := hpv3.block hk
        rw [hcut, Below.heap_setCell _ _ _ _ (fun e => by subst e; exact absurd (ne_types hmb3 hcur) (by decide))]
      have hpg : own pg ∨ w.heap.size ≤ pg := by
        rcases ploc with h | h
        · exact .inl (hpo pg h.symm)
        · right; rw [h]; simp; omega
      have fr4 : Fr (fun k => k = gm ∨ own k) w wc := by
        rw [hcut]
        exact (((fr2.alloc _).drew).grown pgr (fun k hk _ => .inr (hpo k hk))).setCell (fun _ => .inr hmo) _
      have hrm4 : 8 < n → ∃ r, rm = some r ∧ own r ∧ MapIs wc r (e.roles.zip (ints e.pls)) := fun h => by
        obtain ⟨r, r1, r2, r3⟩ := Hrm2.out h
        exact ⟨r, r1, r2, r3.of_block (hold4 r r3.lt (fun e => nomap hpv2 e.symm r3) (fun e => by subst e; obtain ⟨es, c, h1, _⟩ := r3; rw [hmb2] at h1; cases h1))⟩
      have Hrm4 := hide hrm4
      have hgmo : ∀ k, own k → k ≠ gm := fun k hk e => hgo (e ▸ hk)
      clear hcut hrm4 hold3 hold4 hL3 hmb3 hLoc3 hd2 hm30 hm3f Happ hpv3 pgr ploc hpv2 hmb2 hL2 hLoc hc0 hc1 hc2 hm0 hpne hm2 hS2 fr2 Hrm2 hlt hmlt hdrop
      have hLoc := Loc.of_heap hL4
      have hc0 := hLoc.c0
      have hc1 := hLoc.c1
      have hc2 := hLoc.c2
      have hlt := hLoc.lt
      have hcm : wc.cell? ⟨m', 1, none⟩ = some (.map rm) := by simp [World.cell?, hM4]
      have hcm0 : wc.cell? ⟨m', 0, none⟩ = some (.slice (some ⟨pg, 0, none⟩) (n - 1 + 1) pcap) := by simp [World.cell?, hM4]
      have hmlt : m' < wc.heap.size := (Array.getElem?_eq_some_iff.1 hM4).1
      go_wp2_with fail
      by_cases h8a : n < 8
      · -- few
        obtain rfl : rm = none := Hrm02.out (by omega)
        have hd8 : decide ((8 : Int) < (n : Int) + 1) = false := by simp; omega
        refine (many_some _ _ m' none _ hcm).mono ?_
        rintro en w' ⟨rfl, rfl⟩
        obtain ⟨w5, hput, hmE, on5⟩ := run_put Try.underlying28 Try.underlying9 (w := wc.alloc (.cells #[.slice (some ⟨g, 0, none⟩) (n + 1) cap, .int .i64 at0, .pointer (some ⟨m', 0, none⟩)] 67)) (hm4.of_block (Go.Deep.blk_alloc_lt _ _ _ hm4.lt)) name (entV (.slice (some ⟨g, 0, none⟩) (n + 1) cap) at0 (some ⟨m', 0, none⟩))
        have frE : Fr (fun k => k = gm ∨ own k) w w5 := (fr4.alloc _).only on5 (fun _ => .inl rfl)
        have hold5 : ∀ k, k < wc.heap.size → k ≠ gm → w5.heap[k]? = wc.heap[k]? := fun k hk hkg => by rw [on5.block k hkg, Go.Deep.blk_alloc_lt _ _ _ hk]
        have hSE : Sl w5 9 (.slice (some ⟨g, 0, none⟩) (n + 1) cap) (strs (e.roles ++ [role])) := hS4.of_block (fun k hk => by
          obtain ⟨cur, hcur⟩ := hS4.block hk
          exact hold5 k (Array.getElem?_eq_some_iff.1 hcur).1 (fun e => by subst e; exact nomap hS4 hk hm4))
        have hpvE : Sl w5 3 (.slice (some ⟨pg, 0, none⟩) (n - 1 + 1) pcap) (ints ((e.pls ++ [at_]).drop 1)) := hpv4.of_block (fun k hk => by
          obtain ⟨cur, hcur⟩ := hpv4.block hk
          exact hold5 k (Array.getElem?_eq_some_iff.1 hcur).1 (fun e => by subst e; exact nomap hpv4 hk hm4))
        have hME : w5.heap[m']? = some (.cells #[.slice (some ⟨pg, 0, none⟩) (n - 1 + 1) pcap, .map none] 71 (0, 0)) := by
          rw [hold5 m' hmlt (fun e => by subst e; obtain ⟨es, c, h1, _⟩ := hm4; rw [hM4] at h1; cases h1)]; exact hM4
        unfold entV at hput
        clear on5 hold5 hm4 hS4 hpv4 hM4 hL4
        go_wp2_with fail
        go_end0
        refine ⟨rfl, _, some ⟨m', 0, none⟩, hmE, ⟨hSE, ?_, ?_, ?_, ?_, ?_, ?_, ?_⟩, frE⟩
        · intro k hk
          simp [Value.ownBlock] at hk
          subst hk
          rcases hg2 with h | h
          · exact .inl (rownW _ h.symm)
          · exact .inr h
        · simp
        · simp [lenE]
        · rw [List.getElem?_append_left (by omega)]; exact firstE
        · exact fun _ => yesE.out (by simp)
        · intro h; cases h
        · exact ⟨m', _, none, rfl, .inl hmo, hME, hpvE, fun k hk => by simp [Value.ownBlock] at hk; subst hk; exact hpg, fun _ => rfl, fun h => by have := Hl.out; simp at h; omega, ⟨fun h => (by cases h), fun _ => by have := Hl.out; simp; omega⟩⟩
      by_cases h8c : 8 < n
      · -- many
        obtain ⟨r, rfl, hro, hrM⟩ := Hrm4.out h8c
        have hgr0 : gm ≠ r := fun e => hgo (e ▸ hro)
        refine (many_some _ _ m' (some r) _ hcm).mono ?_
        rintro en w' ⟨rfl, rfl⟩
        obtain ⟨w5, hput5, hm5, on5⟩ := run_put Try.underlying69 Try.underlying9 (w := wc.alloc (.cells #[.slice (some ⟨g, 0, none⟩) (n + 1) cap, .int .i64 at0, .pointer (some ⟨m', 0, none⟩)] 67)) (hrM.of_block (Go.Deep.blk_alloc_lt _ _ _ hrM.lt)) role (.int .i64 at_)
        have fr5 : Fr (fun k => k = gm ∨ own k) w w5 := (fr4.alloc _).only on5 (fun _ => .inr hro)
        have hold5 : ∀ k, k < wc.heap.size → k ≠ r → w5.heap[k]? = wc.heap[k]? := fun k hk hkr => by rw [on5.block k hkr, Go.Deep.blk_alloc_lt _ _ _ hk]
        have hLr : L ≠ r := fun e => by subst e; obtain ⟨es, c, h1, _⟩ := hrM; rw [hL4] at h1; cases h1
        have hmr : m' ≠ r := fun e => by subst e; obtain ⟨es, c, h1, _⟩ := hrM; rw [hM4] at h1; cases h1
        have hL5 : w5.heap[L]? = some (.cells #[.slice (some ⟨g, 0, none⟩) (n + 1) cap, .int .i64 at0, .pointer (some ⟨m', 0, none⟩)] 67 (0, 0)) := by rw [hold5 L hlt hLr]; exact hL4
        have hLoc5 := Loc.of_heap hL5
        have hd0 := hLoc5.c0
        have hd1 := hLoc5.c1
        have hd2 := hLoc5.c2
        have hgM5 : MapIs w5 gm l := hm4.of_block (hold5 gm hm4.lt hgr0)
        obtain ⟨w6, hput6, hmE, on6⟩ := run_put Try.underlying28 Try.underlying9 hgM5 name (entV (.slice (some ⟨g, 0, none⟩) (n + 1) cap) at0 (some ⟨m', 0, none⟩))
        have frE : Fr (fun k => k = gm ∨ own k) w w6 := fr5.only on6 (fun _ => .inl rfl)
        have hold6 : ∀ k, k < wc.heap.size → k ≠ r → k ≠ gm → w6.heap[k]? = wc.heap[k]? := fun k hk hkr hkg => by rw [on6.block k hkg, hold5 k hk hkr]
        have hSE : Sl w6 9 (.slice (some ⟨g, 0, none⟩) (n + 1) cap) (strs (e.roles ++ [role])) := hS4.of_block (fun k hk => by
          obtain ⟨cur, hcur⟩ := hS4.block hk
          exact hold6 k (Array.getElem?_eq_some_iff.1 hcur).1 (fun e => by subst e; exact nomap hS4 hk hrM) (fun e => by subst e; exact nomap hS4 hk hm4))
        have hpvE : Sl w6 3 (.slice (some ⟨pg, 0, none⟩) (n - 1 + 1) pcap) (ints ((e.pls ++ [at_]).drop 1)) := hpv4.of_block (fun k hk => by
          obtain ⟨cur, hcur⟩ := hpv4.block hk
          exact hold6 k (Array.getElem?_eq_some_iff.1 hcur).1 (fun e => by subst e; exact nomap hpv4 hk hrM) (fun e => by subst e; exact nomap hpv4 hk hm4))
        have hME : w6.heap[m']? = some (.cells #[.slice (some ⟨pg, 0, none⟩) (n - 1 + 1) pcap, .map (some r)] 71 (0, 0)) := by rw [hold6 m' hmlt hmr (hgmo m' hmo)]; exact hM4
        have hrE : MapIs w6 r ((e.roles ++ [role]).zip (ints (e.pls ++ [at_]))) := by
          rw [← zip_put lenE (by rw [List.nodup_append] at hnd; exact fun h => hnd.2.2 role h role (by simp) rfl)]
          exact hm5.of_block (on6.block r (fun e => hgr0 e.symm))
        unfold entV at hput6
        clear on5 on6 hold5 hold6 hm4 hS4 hpv4 hM4 hL4 hL5 hLoc5 hgM5 hm5 hrM fr5
        go_wp2_with fail
        go_end0
        refine ⟨rfl, _, some ⟨m', 0, none⟩, hmE, ⟨hSE, ?_, ?_, ?_, ?_, ?_, ?_, ?_⟩, frE⟩
        · intro k hk
          simp [Value.ownBlock] at hk
          subst hk
          rcases hg2 with h | h
          · exact .inl (rownW _ h.symm)
          · exact .inr h
        · simp
        · simp [lenE]
        · rw [List.getElem?_append_left (by omega)]; exact firstE
        · exact fun _ => yesE.out (by simp)
        · intro h; cases h
        · exact ⟨m', _, some r, rfl, .inl hmo, hME, hpvE, fun k hk => by simp [Value.ownBlock] at hk; subst hk; exact hpg, fun h => by have := Hl.out; simp at h; omega, fun _ => ⟨r, rfl, .inl hro, hrE⟩, ⟨fun h => (by cases h), fun _ => by have := Hl.out; simp; omega⟩⟩
      · -- the ninth
        obtain rfl : rm = none := Hrm02.out (by omega)
        have hd8 : decide ((8 : Int) < (n : Int) + 1) = true := by simp; omega
        have hmf : wc.frozen? ⟨m', 1, none⟩ = false := by simp [World.frozen?, hM4]
        refine (many_some _ _ m' none _ hcm).mono ?_
        rintro en w' ⟨rfl, rfl⟩
        have hmk := run_make69
        have hat0 : at0 ≠ -1 := yesE.out (by simp)
        go_wp2_with fail
        obtain ⟨w3, hw3⟩ : ∃ w3, w3 = wc.alloc (.cells #[.slice (some ⟨g, 0, none⟩) (n + 1) cap, .int .i64 at0, .pointer (some ⟨m', 0, none⟩)] 67) := ⟨_, rfl⟩
        have hold3 : ∀ k, k < wc.heap.size → w3.heap[k]? = wc.heap[k]? := fun k hk => by rw [hw3]; exact Go.Deep.blk_alloc_lt _ _ _ hk
        have hL3 : w3.heap[L]? = some (.cells #[.slice (some ⟨g, 0, none⟩) (n + 1) cap, .int .i64 at0, .pointer (some ⟨m', 0, none⟩)] 67 (0, 0)) := by rw [hold3 L hlt]; exact hL4
        have hM3 : w3.heap[m']? = some (.cells #[.slice (some ⟨pg, 0, none⟩) (n - 1 + 1) pcap, .map none] 71 (0, 0)) := by rw [hold3 m' hmlt]; exact hM4
        have hm3 : MapIs w3 gm l := hm4.of_block (hold3 gm hm4.lt)
        have hS3 : Sl w3 9 (.slice (some ⟨g, 0, none⟩) (n + 1) cap) (strs (e.roles ++ [role])) := hS4.of_block (fun k hk => by
          obtain ⟨cur, hcur⟩ := hS4.block hk
          exact hold3 k (Array.getElem?_eq_some_iff.1 hcur).1)
        have hpv3 : Sl w3 3 (.slice (some ⟨pg, 0, none⟩) (n - 1 + 1) pcap) (ints ((e.pls ++ [at_]).drop 1)) := hpv4.of_block (fun k hk => by
          obtain ⟨cur, hcur⟩ := hpv4.block hk
          exact hold3 k (Array.getElem?_eq_some_iff.1 hcur).1)
        have fr3 : Fr (fun k => k = gm ∨ own k) w w3 := by rw [hw3]; exact fr4.alloc _
        rw [← hw3]
        clear hw3 hold3 hL4 hM4 hm4 hS4 hpv4 fr4 hLoc hc0 hc1 hc2 hlt hcm hcm0 hmlt hmf
        have hLoc := Loc.of_heap hL3
        have hc0 := hLoc.c0
        have hc1 := hLoc.c1
        have hc2 := hLoc.c2
        have hlt := hLoc.lt
        have hM1 : w3.cell? ⟨m', 1, none⟩ = some (.map none) := by simp [World.cell?, hM3]
        have hMf : w3.frozen? ⟨m', 1, none⟩ = false := by simp [World.frozen?, hM3]
        have hMlt : m' < w3.heap.size := (Array.getElem?_eq_some_iff.1 hM3).1
        have hML : m' ≠ L := fun e => by subst e; exact absurd (ne_types hL3 hM3) (by decide)
        have hgmM : gm ≠ m' := fun e => by subst e; obtain ⟨es, c, h1, _⟩ := hm3; rw [hM3] at h1; cases h1
        have hgM : g ≠ m' := fun e => by subst e; obtain ⟨cur, hcur⟩ := hS3.block (k := g) rfl; exact absurd (ne_types hM3 hcur) (by decide)
        have hpgM : pg ≠ m' := fun e => by subst e; obtain ⟨cur, hcur⟩ := hpv3.block (k := pg) rfl; exact absurd (ne_types hM3 hcur) (by decide)
        have hgmlt : gm < w3.heap.size := hm3.lt
        go_region
        have hL4 : ((w3.setCell ⟨m', 1, none⟩ (.map (some w3.heap.size))).alloc (.map #[] 0)).drew.heap[L]? = some (.cells #[.slice (some ⟨g, 0, none⟩) (n + 1) cap, .int .i64 at0, .pointer (some ⟨m', 0, none⟩)] 67 (0, 0)) := by
          show ((w3.setCell ⟨m', 1, none⟩ (.map (some w3.heap.size))).alloc (.map #[] 0)).heap[L]? = _
          rw [Go.Deep.blk_alloc_lt _ _ _ (by simp; omega), Below.heap_setCell _ _ _ _ (fun e => hML e.symm)]
          exact hL3
        have hM4 : ((w3.setCell ⟨m', 1, none⟩ (.map (some w3.heap.size))).alloc (.map #[] 0)).drew.heap[m']? = some (.cells #[.slice (some ⟨pg, 0, none⟩) (n - 1 + 1) pcap, .map (some w3.heap.size)] 71 (0, 0)) := by
          show ((w3.setCell ⟨m', 1, none⟩ (.map (some w3.heap.size))).alloc (.map #[] 0)).heap[m']? = _
          rw [Go.Deep.blk_alloc_lt _ _ _ (by simp; omega)]
          simp [World.setCell, Array.getElem?_modify, hM3]
        have hold4 : ∀ k, k < w3.heap.size → k ≠ m' → ((w3.setCell ⟨m', 1, none⟩ (.map (some w3.heap.size))).alloc (.map #[] 0)).drew.heap[k]? = w3.heap[k]? := fun k hk hkM => by
          show ((w3.setCell ⟨m', 1, none⟩ (.map (some w3.heap.size))).alloc (.map #[] 0)).heap[k]? = _
          rw [Go.Deep.blk_alloc_lt _ _ _ (by simp; omega), Below.heap_setCell _ _ _ _ hkM]
        have hR4 : MapIs ((w3.setCell ⟨m', 1, none⟩ (.map (some w3.heap.size))).alloc (.map #[] 0)).drew w3.heap.size [] := by
          have := MapIs.made (w3.setCell ⟨m', 1, none⟩ (.map (some w3.heap.size)))
          simp only [World.size_setCell] at this
          exact this.of_block rfl
        have fr4 : Fr (fun k => k = gm ∨ own k) w ((w3.setCell ⟨m', 1, none⟩ (.map (some w3.heap.size))).alloc (.map #[] 0)).drew :=
          ((fr3.setCell (fun _ => .inr hmo) _).alloc _).drew
        generalize ((w3.setCell ⟨m', 1, none⟩ (.map (some w3.heap.size))).alloc (.map #[] 0)).drew = w4 at *
        have hm4 : MapIs w4 gm l := hm3.of_block (hold4 gm hm3.lt hgmM)
        have hS4 : Sl w4 9 (.slice (some ⟨g, 0, none⟩) (n + 1) cap) (strs (e.roles ++ [role])) := hS3.of_block (fun k hk => by
          obtain ⟨cur, hcur⟩ := hS3.block hk
          refine hold4 k (Array.getElem?_eq_some_iff.1 hcur).1 ?_
          simp [Value.ownBlock] at hk
          subst hk
          exact hgM)
        have hpv4 : Sl w4 3 (.slice (some ⟨pg, 0, none⟩) (n - 1 + 1) pcap) (ints ((e.pls ++ [at_]).drop 1)) := hpv3.of_block (fun k hk => by
          obtain ⟨cur, hcur⟩ := hpv3.block hk
          refine hold4 k (Array.getElem?_eq_some_iff.1 hcur).1 ?_
          simp [Value.ownBlock] at hk
          subst hk
          exact hpgM)
        have hgmR : gm ≠ w3.heap.size := by omega
        have hLR : L ≠ w3.heap.size := by omega
        have hMR : m' ≠ w3.heap.size := by omega
        have hRw : w.heap.size ≤ w3.heap.size := fr3.size
        have HR := hide hRw
        generalize w3.heap.size = R at *
        clear hc0 hc1 hc2 hlt hM1 hMf hmk hL3 hM3 hS3 hm3 hold4 fr3 hLoc hpv3 hgmlt hMlt
        have hcells : ∀ (k : Nat) (u : Value), (strs (e.roles ++ [role]))[k]? = some u → w4.cell? ⟨g, k, none⟩ = some u := by
          obtain ⟨a, cp, hv, _, hc⟩ := hS4.shape
          injection hv with hv1 hv2 hv3
          intro k u hu
          have := hc g 0 hv1.symm k u hu
          simpa using this
        have hpcells : ∀ (k : Nat) (u : Value), (ints ((e.pls ++ [at_]).drop 1))[k]? = some u → w4.cell? ⟨pg, k, none⟩ = some u := by
          obtain ⟨a, cp, hv, _, hc⟩ := hpv4.shape
          injection hv with hv1 hv2 hv3
          intro k u hu
          have := hc pg 0 hv1.symm k u hu
          simpa using this
        have hlenR : (e.roles ++ [role]).length = n + 1 := by simp [Hl.out]
        have hlenP : (e.pls ++ [at_]).length = (e.roles ++ [role]).length := by simp [lenE]
        have hf0 : (e.pls ++ [at_])[0]? = some at0 := by rw [List.getElem?_append_left (by omega)]; exact firstE
        have HlenR := hide hlenR
        have HlenP := hide hlenP
        have Hf0 := hide hf0
        have Hcells := hide hcells
        have Hpcells := hide hpcells
        clear hlenR hlenP hcells hpcells hf0
        have hLoc := Loc.of_heap hL4
        have hc0 := hLoc.c0
        have hc1 := hLoc.c1
        have hc2 := hLoc.c2
        have hlt := hLoc.lt
        go_wp2_with fail
        go_loopw [91] (fun i wr => ∃ k : Nat, k ≤ n + 1 ∧ i = .int .i64 k ∧ MapIs wr R (((e.roles ++ [role]).take k).zip (ints ((e.pls ++ [at_]).take k))) ∧ Fr (· = R) w4 wr) (fun i _ => n + 1 - (intOf i).toNat)
        case atStart => exact ⟨0, by omega, rfl, by simpa [ints] using hR4, Fr.refl _ _⟩
        case round =>
          obtain ⟨k, hk, rfl, hmr, frr⟩ := hrel
          have hLr : wr.heap[L]? = some (.cells #[.slice (some ⟨g, 0, none⟩) (n + 1) cap, .int .i64 at0, .pointer (some ⟨m', 0, none⟩)] 67 (0, 0)) := by rw [frr.block L hlt hLR]; exact hL4
          have hMr : wr.heap[m']? = some (.cells #[.slice (some ⟨pg, 0, none⟩) (n - 1 + 1) pcap, .map (some R)] 71 (0, 0)) := by rw [frr.block m' (Array.getElem?_eq_some_iff.1 hM4).1 hMR]; exact hM4
          have hLocr := Loc.of_heap hLr
          have hd0 := hLocr.c0
          have hd1 := hLocr.c1
          have hd2 := hLocr.c2
          have hdm : wr.cell? ⟨m', 1, none⟩ = some (.map (some R)) := by simp [World.cell?, hMr]
          have hdm0 : wr.cell? ⟨m', 0, none⟩ = some (.slice (some ⟨pg, 0, none⟩) (n - 1 + 1) pcap) := by simp [World.cell?, hMr]
          clear hc0 hc1 hc2 hLoc
          by_cases hlt1 : k < n + 1
          · obtain ⟨s, hs⟩ : ∃ s, (e.roles ++ [role])[k]? = some s := ⟨_, List.getElem?_eq_getElem (by rw [HlenR.out]; exact hlt1)⟩
            obtain ⟨p, hp⟩ : ∃ p, (e.pls ++ [at_])[k]? = some p := ⟨_, List.getElem?_eq_getElem (by rw [HlenP.out, HlenR.out]; exact hlt1)⟩
            have hcs : wr.cell? ⟨g, k, none⟩ = some (.string s) := by
              have h4 := Hcells.out k (.string s) (by rw [strs, List.getElem?_map, hs]; rfl)
              have hgl := World.block_lt_of_cell? w4 _ h4
              have hgR : g ≠ R := fun e => by subst e; rw [hR4.nocell] at h4; cases h4
              rw [World.cell?_of_block (frr.block g hgl hgR)]
              exact h4
            have hpc : ∀ (i : Nat) (u : Value), (ints ((e.pls ++ [at_]).drop 1))[i]? = some u → wr.cell? ⟨pg, i, none⟩ = some u := fun i u hu => by
              have h4 := Hpcells.out i u hu
              have hgl := World.block_lt_of_cell? w4 _ h4
              have hgR : pg ≠ R := fun e => by subst e; rw [hR4.nocell] at h4; cases h4
              rw [World.cell?_of_block (frr.block pg hgl hgR)]
              exact h4
            have Hpc := hide hpc
            obtain ⟨w5, hput, hm5, on5⟩ := run_put Try.underlying69 Try.underlying9 (w := wr.drew) (hmr.of_block rfl) s (.int .i64 p)
            rw [zip_take_succ HlenP.out hs hp hnd] at hm5
            have fr5 : Fr (· = R) w4 w5 := frr.drew.only on5 (fun _ => rfl)
            have h51 : w5.cell? ⟨L, 2, none⟩ = some (.pointer (some ⟨m', 0, none⟩)) := (on5.cell _).trans hd2
            have h53 : w5.cell? ⟨m', 1, none⟩ = some (.map (some R)) := (on5.cell _).trans hdm
            have Hs := hide hs
            have Hp := hide hp
            clear on5 hs hp hmr hpc
            go_wp2_with fail
            go_region_held3 (fun w' => w'.cell? ⟨L, 2, none⟩ = some (.pointer (some ⟨m', 0, none⟩)) ∧ w'.cell? ⟨m', 1, none⟩ = some (.map (some R)))
              (first | exact ⟨hd2, hdm⟩ | exact ⟨h51, h53⟩)
              ((go_at_call 46; refine (placeAt_any L m' pg (n - 1 + 1) pcap (e.pls ++ [at_]) at0 p k _ Hp.out Hf0.out hat0 (by rw [HlenP.out, HlenR.out]; omega) (by rw [HlenP.out, HlenR.out]; omega) (by exact hd1) (by exact hd2) (by exact hdm0) (by exact Hpc.out)).mono ?_; rintro en w' ⟨rfl, rfl⟩))
            go_wp2_with fail
            go_roundw
            case rel => exact ⟨k + 1, by omega, by go_num, hm5, fr5⟩
            case measure => simp [intOf]; omega
          · have hk1 : k = n + 1 := by omega
            rw [hk1, List.take_of_length_le (by rw [HlenR.out]; omega), List.take_of_length_le (by rw [HlenP.out, HlenR.out]; omega)] at hmr
            have hgm5 : MapIs wr gm l := hm4.of_block (frr.block gm hm4.lt hgmR)
            obtain ⟨w6, hput, hmE, on6⟩ := run_put Try.underlying28 Try.underlying9 hgm5 name (entV (.slice (some ⟨g, 0, none⟩) (n + 1) cap) at0 (some ⟨m', 0, none⟩))
            have frE : Fr (fun k => k = gm ∨ own k) w w6 := by
              refine Fr.only ?_ on6 (fun _ => .inl rfl)
              exact fr4.trans2 (frr.mono2 (fun k hk h => by exfalso; have := HR.out; omega) fr4.size)
            have hold6 : ∀ k, k < w4.heap.size → k ≠ R → k ≠ gm → w6.heap[k]? = w4.heap[k]? := fun k hk h1 h2 => by rw [on6.block k h2, frr.block k hk h1]
            have hSE : Sl w6 9 (.slice (some ⟨g, 0, none⟩) (n + 1) cap) (strs (e.roles ++ [role])) := hS4.of_block (fun k hk => by
              obtain ⟨cur, hcur⟩ := hS4.block hk
              exact hold6 k (Array.getElem?_eq_some_iff.1 hcur).1 (fun e => by subst e; exact nomap hS4 hk hR4) (fun e => by subst e; exact nomap hS4 hk hm4))
            have hpvE : Sl w6 3 (.slice (some ⟨pg, 0, none⟩) (n - 1 + 1) pcap) (ints ((e.pls ++ [at_]).drop 1)) := hpv4.of_block (fun k hk => by
              obtain ⟨cur, hcur⟩ := hpv4.block hk
              exact hold6 k (Array.getElem?_eq_some_iff.1 hcur).1 (fun e => by subst e; exact nomap hpv4 hk hR4) (fun e => by subst e; exact nomap hpv4 hk hm4))
            have hME : w6.heap[m']? = some (.cells #[.slice (some ⟨pg, 0, none⟩) (n - 1 + 1) pcap, .map (some R)] 71 (0, 0)) := by rw [on6.block m' (fun e => hgmM e.symm)]; exact hMr
            have hRE : MapIs w6 R ((e.roles ++ [role]).zip (ints (e.pls ++ [at_]))) := hmr.of_block (on6.block R (fun e => hgmR e.symm))
            unfold entV at hput
            clear on6 hgm5 hmr frr hold6
            have hkn : ¬ (k : Int) < (n : Int) + 1 := by omega
            clear hk1 hlt1
            go_wp2_with fail
            go_end0
            refine ⟨rfl, _, some ⟨m', 0, none⟩, hmE, ⟨hSE, ?_, ?_, ?_, ?_, ?_, ?_, ?_⟩, frE⟩
            · intro k hk
              simp [Value.ownBlock] at hk
              subst hk
              rcases hg2 with h | h
              · exact .inl (rownW _ h.symm)
              · exact .inr h
            · simp
            · simp [lenE]
            · rw [List.getElem?_append_left (by omega)]; exact firstE
            · exact fun _ => yesE.out (by simp)
            · intro h; cases h
            · exact ⟨m', _, some R, rfl, .inl hmo, hME, hpvE, fun k hk => by simp [Value.ownBlock] at hk; subst hk; exact hpg, fun h => by have := HlenR.out; simp at h this; omega, fun _ => ⟨R, rfl, .inr HR.out, hRE⟩, ⟨fun h => (by cases h), fun _ => by have := Hl.out; simp; omega⟩⟩

end Go.Proofs.Qxb6000628a
