/-
  addLink onto a name that is there and has no place: few roles.
-/
import Derived.Test.Qxb6000628aAdd
set_option linter.unusedVariables false
namespace Go.Proofs.Qxb6000628a
open Go.RowKit

set_option maxHeartbeats 2000000 in
set_option maxRecDepth 100000 in
/-- A name that is there, no place, at most 8 roles behind it. -/
theorem add_few (gm b : Nat) (name role : ByteArray) (l : List (ByteArray × Value)) (own : Nat → Prop) (placed : Bool) (e : Ent) (ra : Option Addr) (n rc : Nat) (at0 at_ : Int) (w : World) (hm : MapIs w gm l) (hb : w.heap[b]? = some (.cells #[.string name, .string role] 9 (0, 0)))
    (ho : ∀ k, own k → k < w.heap.size) (hgo : ¬ own gm) (hn : mget l name = some (entV (.slice ra n rc) at0 (none))) (he : EntAt w own placed e (.slice ra n rc) at0 (none)) (hlen : e.roles.length = n) (hpl : placed = false) (h8 : n < 8) :
    Calls Try.prog 43 #[.map (some gm), .slice (some ⟨b, 0, none⟩) 2 2, .int .i64 (-1)] w fun en w' => en = .returned (.tuple #[]) ∧ ∃ rv' mo', MapIs w' gm (mput l name (entV rv' at0 mo')) ∧
      EntAt w' (fun k => own k ∨ w.heap.size ≤ k) placed { e with roles := e.roles ++ [role], pls := e.pls ++ [(-1)] } rv' at0 mo' ∧ Fr (fun k => k = gm ∨ own k) w w' := by
  subst hpl
  have c0 : w.cell? ⟨b, 0, none⟩ = some (.string name) := by simp [World.cell?, hb]
  have c1 : w.cell? ⟨b, 1, none⟩ = some (.string role) := by simp [World.cell?, hb]
  have Hn := hide hn
  have Hl := hide hlen
  obtain ⟨i9, hi, hz0, hz1, hz2⟩ := info_parts Try.info9
  have hlenS : Hid ((strs e.roles).length = n) := by show _ = _; rw [← hlen]; simp [strs]
  clear hb hn hlen
  go_enter Try.func43, Try.ntmps43
  go_wp2_with fail
  go_quiet (fail)
  have hmW : MapIs (w.drewN nq) gm l := hm.of_block rfl
  have frW : Fr (fun k => k = gm ∨ own k) w (w.drewN nq) := (Fr.refl _ w).drewN nq
  have heW : EntAt (w.drewN nq) own false e (.slice ra n rc) at0 (none) := he.mono (fun _ _ => rfl) (fun _ h => h)
  have hoW : ∀ k, own k → k < (w.drewN nq).heap.size := ho
  have szW : Hid ((w.drewN nq).heap.size = w.heap.size) := rfl
  generalize w.drewN nq = W at *
  clear hm c0 c1 he
  have hl := run_look Try.underlying28 Try.underlying9 hmW Hn.out true
  simp only [if_true, entV] at hl
  have hne : ∀ k, (Value.slice ra n rc).ownBlock = some k → k < W.heap.size := fun k hk => hoW k (heW.rown k hk)
  have hSl : Sl ((W.alloc (.cells #[.slice ra n rc, .int .i64 at0, .pointer (none)] 67)).alloc (.cells #[.string role] 9)) 9 (.slice ra n rc) (strs e.roles) :=
    heW.roles.of_block (fun k hk => by rw [Go.Deep.blk_alloc_lt _ _ _ (by simp; have := hne k hk; omega), Go.Deep.blk_alloc_lt _ _ _ (hne k hk)])
  go_wp2_with (at_builtin; go_must (refine wpList_app (xs := strs e.roles) (x := .string role) rfl _ _ 22 rfl Try.underlying22 hi hz0 hz1 hz2 rfl rfl ?hS rfl ?hx rfl n hlenS.out ?hb1 ?hb2 ?hK))
  case hS => exact hSl
  case hx => simp
  case hb1 => omega
  case hb2 => unfold maxLen; omega
  case hK =>
    intro g cap w1 hS1 hgr hloc
    have hL := loc_app hgr hne
    have hLoc := Loc.of_heap hL
    have hc0 := hLoc.c0
    have hc1 := hLoc.c1
    have hc2 := hLoc.c2
    have hf := hLoc.f
    have hlt := hLoc.lt
    have Hloc := hide hloc
    clear hLoc hloc hSl hl
    have hgL : g ≠ W.heap.size := fun e => by
      rcases Hloc.out with h | h
      · have := hne g h.symm; omega
      · omega
    obtain ⟨w2, hw2⟩ : ∃ w2, w2 = w1.setCell ⟨W.heap.size, 0, none⟩ (.slice (some ⟨g, 0, none⟩) (n + 1) cap) := ⟨_, rfl⟩
    have hL2 : w2.heap[W.heap.size]? = some (.cells #[.slice (some ⟨g, 0, none⟩) (n + 1) cap, .int .i64 at0, .pointer (none)] 67 (0, 0)) := by
      rw [hw2]; simp [World.setCell, Array.getElem?_modify, hL]
    have hS2 : Sl w2 9 (.slice (some ⟨g, 0, none⟩) (n + 1) cap) (strs e.roles ++ [.string role]) := by
      rw [hw2]
      exact hS1.of_block (fun k hk => Below.heap_setCell _ _ _ _ (by simp [Value.ownBlock] at hk; subst hk; exact hgL))
    have hold : ∀ k, k < W.heap.size → some k ≠ (Value.slice ra n rc).ownBlock → w2.heap[k]? = W.heap[k]? := fun k hk hkr => by
      rw [hw2, Below.heap_setCell _ _ _ _ (by show k ≠ W.heap.size; omega), hgr.block k (by simp; omega) hkr, Go.Deep.blk_alloc_lt _ _ _ (by simp; omega), Go.Deep.blk_alloc_lt _ _ _ hk]
    have fr1 : Fr (fun k => k = gm ∨ own k) w w1 := ((frW.alloc _).alloc _).grown hgr (fun k hk _ => .inr (heW.rown k hk))
    have fr2 : Fr (fun k => k = gm ∨ own k) w w2 := by rw [hw2]; exact fr1.setCell (fun h => by exfalso; have := szW.out; simp at h; omega) _
    have hgmW : gm ≠ W.heap.size := by have := hmW.lt; omega
    have hm2 : MapIs w2 gm l := hmW.of_block (hold gm hmW.lt (fun e => nomap heW.roles e.symm hmW))
    have hg2 : some g = (Value.slice ra n rc).ownBlock ∨ w.heap.size ≤ g := by
      rcases Hloc.out with h | h
      · exact .inl h
      · right; have := szW.out; omega
    have hsz2 : W.heap.size < w2.heap.size := (Array.getElem?_eq_some_iff.1 hL2).1
    have hgd : g < w2.heap.size := by obtain ⟨cur, hcur⟩ := hS2.block (k := g) rfl; exact (Array.getElem?_eq_some_iff.1 hcur).1
    have hltL : w.heap.size ≤ W.heap.size := by have := szW.out; omega
    have rownW := heW.rown
    have posE := heW.pos; have lenE := heW.len; have firstE := heW.first; have noE := hide heW.no; have yesE := hide heW.yes
    have Hw2 := hide hw2
    clear hw2
    go_wp2_with fail
    rw [← Hw2.out]
    generalize W.heap.size = L at *
    clear hgr hL hc0 hc1 hc2 hf hlt hS1 fr1 frW hmW heW hold
    have hLoc := Loc.of_heap hL2
    have hc0 := hLoc.c0
    have hc1 := hLoc.c1
    have hc2 := hLoc.c2
    have hlt := hLoc.lt
    refine (many_nil _ _ _).mono ?_
    rintro en w' ⟨rfl, rfl⟩
    obtain ⟨w3, hput, hm3, on3⟩ := run_put Try.underlying28 Try.underlying9 (w := w2.alloc (.cells #[.slice (some ⟨g, 0, none⟩) (n + 1) cap, .int .i64 at0, .pointer none] 67)) (hm2.of_block (Go.Deep.blk_alloc_lt _ _ _ hm2.lt)) name (entV (.slice (some ⟨g, 0, none⟩) (n + 1) cap) at0 none)
    have fr3 : Fr (fun k => k = gm ∨ own k) w w3 := (fr2.alloc _).only on3 (fun _ => .inl rfl)
    have hS3 : Sl w3 9 (.slice (some ⟨g, 0, none⟩) (n + 1) cap) (strs e.roles ++ [.string role]) := hS2.of_block (fun k hk => by
      obtain ⟨cur, hcur⟩ := hS2.block hk
      rw [on3.block k (fun e => by subst e; exact nomap hS2 hk hm2), Go.Deep.blk_alloc_lt _ _ _ (Array.getElem?_eq_some_iff.1 hcur).1])
    unfold entV at hput
    clear on3 hm2 hS2 fr2 hL2 hLoc
    go_wp2_with fail
    go_end0
    refine ⟨rfl, _, none, hm3, ⟨?_, ?_, ?_, ?_, ?_, ?_, ?_, ?_⟩, fr3⟩
    · rw [strs_snoc]; exact hS3
    · intro k hk
      simp [Value.ownBlock] at hk
      subst hk
      rcases hg2 with h | h
      · exact .inl (rownW _ h.symm)
      · exact .inr h
    · simp
    · simp [lenE]
    · rw [List.getElem?_append_left (by omega)]; exact firstE
    · intro h; cases h
    · intro h p hp
      simp only [List.mem_append, List.mem_singleton] at hp
      rcases hp with hp | hp
      · exact noE.out trivial p hp
      · exact hp
    · refine ⟨?_, fun h => by cases h⟩
      have := Hl.out
      simp; omega

end Go.Proofs.Qxb6000628a
