/-
  addLink onto a name that is there and has no place: many roles.
-/
import Derived.Test.Qxb6000628aAddA
set_option linter.unusedVariables false
namespace Go.Proofs.Qxb6000628a
open Go.RowKit

theorem ne_types {w : World} {k : Nat} {c c' : Array Value} {t t' : TypeId} (h : w.heap[k]? = some (.cells c t (0, 0))) (h' : w.heap[k]? = some (.cells c' t' (0, 0))) : t = t' := by
  rw [h] at h'
  injection h' with h'
  injection h'

theorem zip_snoc {α β : Type} : ∀ (l : List α) (m : List β) (a : α) (b : β), l.length = m.length → (l ++ [a]).zip (m ++ [b]) = l.zip m ++ [(a, b)]
  | [], [], _, _, _ => rfl
  | [], _ :: _, _, _, h => by simp at h
  | _ :: _, [], _, _, h => by simp at h
  | x :: l, y :: m, a, b, h => by simp [zip_snoc l m a b (by simpa using h)]

theorem mget_zip_none {s : ByteArray} : ∀ (l : List ByteArray) (m : List Value), s ∉ l → mget (l.zip m) s = none
  | [], _, _ => by simp [mget]
  | _ :: _, [], _ => by simp [mget]
  | x :: l, y :: m, h => by
    simp only [List.mem_cons, not_or] at h
    simp only [List.zip_cons_cons, mget]
    rw [if_neg (fun e => h.1 e.symm)]
    exact mget_zip_none l m h.2

/-- The role index takes one more. -/
theorem zip_put {roles : List ByteArray} {pls : List Int} {role : ByteArray} {at_ : Int} (hl : pls.length = roles.length) (hr : role ∉ roles) :
    mput (roles.zip (ints pls)) role (.int .i64 at_) = (roles ++ [role]).zip (ints (pls ++ [at_])) := by
  rw [mput_of_none (mget_zip_none _ _ hr), ints_snoc, zip_snoc _ _ _ _ (by simp [ints, hl])]

set_option maxHeartbeats 2000000 in
set_option maxRecDepth 100000 in
/-- A name that is there, no place, more than 8 roles already. -/
theorem add_many (gm b : Nat) (name role : ByteArray) (l : List (ByteArray × Value)) (own : Nat → Prop) (placed : Bool) (e : Ent) (ra : Option Addr) (n rc : Nat) (at0 at_ : Int) (m : Nat) (w : World) (hm : MapIs w gm l) (hb : w.heap[b]? = some (.cells #[.string name, .string role] 9 (0, 0)))
    (ho : ∀ k, own k → k < w.heap.size) (hgo : ¬ own gm) (hn : mget l name = some (entV (.slice ra n rc) at0 (some ⟨m, 0, none⟩))) (he : EntAt w own placed e (.slice ra n rc) at0 (some ⟨m, 0, none⟩)) (hlen : e.roles.length = n) (hpl : placed = false) (h8 : 8 < n) (hbd : n ≤ 1000000) (hrn : role ∉ e.roles) :
    Calls Try.prog 43 #[.map (some gm), .slice (some ⟨b, 0, none⟩) 2 2, .int .i64 (-1)] w fun en w' => en = .returned (.tuple #[]) ∧ ∃ rv' mo', MapIs w' gm (mput l name (entV rv' at0 mo')) ∧
      EntAt w' (fun k => own k ∨ w.heap.size ≤ k) placed { e with roles := e.roles ++ [role], pls := e.pls ++ [(-1)] } rv' at0 mo' ∧ Fr (fun k => k = gm ∨ own k) w w' := by
  subst hpl
  have c0 : w.cell? ⟨b, 0, none⟩ = some (.string name) := by simp [World.cell?, hb]
  have c1 : w.cell? ⟨b, 1, none⟩ = some (.string role) := by simp [World.cell?, hb]
  have Hn := hide hn
  have Hl := hide hlen
  obtain ⟨i9, hi, hz0, hz1, hz2⟩ := info_parts Try.info9
  have hlenS : Hid ((strs e.roles).length = n) := by show _ = _; rw [← hlen]; simp [strs]
  clear hb hn hlen
  go_enter Try.func43, Try.ntmps43
  go_wp2_with fail
  go_quiet (fail)
  have hmW : MapIs (w.drewN nq) gm l := hm.of_block rfl
  have frW : Fr (fun k => k = gm ∨ own k) w (w.drewN nq) := (Fr.refl _ w).drewN nq
  have heW : EntAt (w.drewN nq) own false e (.slice ra n rc) at0 (some ⟨m, 0, none⟩) := he.mono (fun _ _ => rfl) (fun _ h => h)
  have hoW : ∀ k, own k → k < (w.drewN nq).heap.size := ho
  have szW : Hid ((w.drewN nq).heap.size = w.heap.size) := rfl
  generalize w.drewN nq = W at *
  clear hm c0 c1 he
  have hl := run_look Try.underlying28 Try.underlying9 hmW Hn.out true
  simp only [if_true, entV] at hl
  have hne : ∀ k, (Value.slice ra n rc).ownBlock = some k → k < W.heap.size := fun k hk => hoW k (heW.rown k hk)
  have hSl : Sl ((W.alloc (.cells #[.slice ra n rc, .int .i64 at0, .pointer (some ⟨m, 0, none⟩)] 67)).alloc (.cells #[.string role] 9)) 9 (.slice ra n rc) (strs e.roles) :=
    heW.roles.of_block (fun k hk => by rw [Go.Deep.blk_alloc_lt _ _ _ (by simp; have := hne k hk; omega), Go.Deep.blk_alloc_lt _ _ _ (hne k hk)])
  go_wp2_with (at_builtin; go_must (refine wpList_app (xs := strs e.roles) (x := .string role) rfl _ _ 22 rfl Try.underlying22 hi hz0 hz1 hz2 rfl rfl ?hS rfl ?hx rfl n hlenS.out ?hb1 ?hb2 ?hK))
  case hS => exact hSl
  case hx => simp
  case hb1 => omega
  case hb2 => unfold maxLen; omega
  case hK =>
    intro g cap w1 hS1 hgr hloc
    have hL := loc_app hgr hne
    have hLoc := Loc.of_heap hL
    have hc0 := hLoc.c0
    have hc1 := hLoc.c1
    have hc2 := hLoc.c2
    have hf := hLoc.f
    have hlt := hLoc.lt
    have Hloc := hide hloc
    clear hLoc hloc hSl hl
    have hgL : g ≠ W.heap.size := fun e => by
      rcases Hloc.out with h | h
      · have := hne g h.symm; omega
      · omega
    obtain ⟨w2, hw2⟩ : ∃ w2, w2 = w1.setCell ⟨W.heap.size, 0, none⟩ (.slice (some ⟨g, 0, none⟩) (n + 1) cap) := ⟨_, rfl⟩
    have hL2 : w2.heap[W.heap.size]? = some (.cells #[.slice (some ⟨g, 0, none⟩) (n + 1) cap, .int .i64 at0, .pointer (some ⟨m, 0, none⟩)] 67 (0, 0)) := by
      rw [hw2]; simp [World.setCell, Array.getElem?_modify, hL]
    have hS2 : Sl w2 9 (.slice (some ⟨g, 0, none⟩) (n + 1) cap) (strs e.roles ++ [.string role]) := by
      rw [hw2]
      exact hS1.of_block (fun k hk => Below.heap_setCell _ _ _ _ (by simp [Value.ownBlock] at hk; subst hk; exact hgL))
    have hold : ∀ k, k < W.heap.size → some k ≠ (Value.slice ra n rc).ownBlock → w2.heap[k]? = W.heap[k]? := fun k hk hkr => by
      rw [hw2, Below.heap_setCell _ _ _ _ (by show k ≠ W.heap.size; omega), hgr.block k (by simp; omega) hkr, Go.Deep.blk_alloc_lt _ _ _ (by simp; omega), Go.Deep.blk_alloc_lt _ _ _ hk]
    have fr1 : Fr (fun k => k = gm ∨ own k) w w1 := ((frW.alloc _).alloc _).grown hgr (fun k hk _ => .inr (heW.rown k hk))
    have fr2 : Fr (fun k => k = gm ∨ own k) w w2 := by rw [hw2]; exact fr1.setCell (fun h => by exfalso; have := szW.out; simp at h; omega) _
    have hgmW : gm ≠ W.heap.size := by have := hmW.lt; omega
    have hm2 : MapIs w2 gm l := hmW.of_block (hold gm hmW.lt (fun e => nomap heW.roles e.symm hmW))
    have hg2 : some g = (Value.slice ra n rc).ownBlock ∨ w.heap.size ≤ g := by
      rcases Hloc.out with h | h
      · exact .inl h
      · right; have := szW.out; omega
    have hsz2 : W.heap.size < w2.heap.size := (Array.getElem?_eq_some_iff.1 hL2).1
    have hgd : g < w2.heap.size := by obtain ⟨cur, hcur⟩ := hS2.block (k := g) rfl; exact (Array.getElem?_eq_some_iff.1 hcur).1
    have hltL : w.heap.size ≤ W.heap.size := by have := szW.out; omega
    have rownW := heW.rown
    have posE := heW.pos; have lenE := heW.len; have firstE := heW.first; have noE := hide heW.no; have yesE := hide heW.yes
    have Hw2 := hide hw2
    clear hw2
    obtain ⟨m', pv, rm, hme, hmo, hmb, hpv, hpo, _, hrm, _⟩ := heW.more
    obtain rfl : m' = m := by injection hme with hme; exact hme.symm
    obtain ⟨r, rfl, hro, hrM⟩ := hrm (by rw [Hl.out]; omega)
    have hmb2 : w2.heap[m']? = some (.cells #[pv, .map (some r)] 71 (0, 0)) := by
      rw [hold m' (hoW m' hmo) (fun e => by obtain ⟨cur, hcur⟩ := heW.roles.block e.symm; exact absurd (ne_types hmb hcur) (by decide))]
      exact hmb
    have hrM2 : MapIs w2 r (e.roles.zip (ints e.pls)) := hrM.of_block (hold r (hoW r hro) (fun e => nomap heW.roles e.symm hrM))
    have hpv2 : Sl w2 3 pv [] := hpv.of_block (fun k hk => hold k (hoW k (hpo k hk)) (fun e => by obtain ⟨cur, hcur⟩ := heW.roles.block e.symm; obtain ⟨cur', hcur'⟩ := hpv.block hk; exact absurd (ne_types hcur hcur') (by decide)))
    have hgr0 : gm ≠ r := fun e => hgo (e ▸ hro)
    go_wp2_with fail
    rw [← Hw2.out]
    generalize W.heap.size = L at *
    clear hgr hL hc0 hc1 hc2 hf hlt hS1 fr1 frW hmW heW hold hmb hrM hpv
    have hLoc := Loc.of_heap hL2
    have hc0 := hLoc.c0
    have hc1 := hLoc.c1
    have hc2 := hLoc.c2
    have hlt := hLoc.lt
    have hcm : w2.cell? ⟨m', 1, none⟩ = some (.map (some r)) := by simp [World.cell?, hmb2]
    have hmlt : m' < w2.heap.size := (Array.getElem?_eq_some_iff.1 hmb2).1
    refine (many_some _ _ m' (some r) _ hcm).mono ?_
    rintro en w' ⟨rfl, rfl⟩
    obtain ⟨w3, hput, hm3, on3⟩ := run_put Try.underlying69 Try.underlying9 (w := w2.alloc (.cells #[.slice (some ⟨g, 0, none⟩) (n + 1) cap, .int .i64 at0, .pointer (some ⟨m', 0, none⟩)] 67)) (hrM2.of_block (Go.Deep.blk_alloc_lt _ _ _ hrM2.lt)) role (.int .i64 (-1))
    have fr3 : Fr (fun k => k = gm ∨ own k) w w3 := (fr2.alloc _).only on3 (fun _ => .inr hro)
    have hold3 : ∀ k, k < w2.heap.size → k ≠ r → w3.heap[k]? = w2.heap[k]? := fun k hk hkr => by rw [on3.block k hkr, Go.Deep.blk_alloc_lt _ _ _ hk]
    have hgM3 : MapIs w3 gm l := hm2.of_block (hold3 gm hm2.lt hgr0)
    have hLr : L ≠ r := fun e => by subst e; obtain ⟨es, c, h1, _⟩ := hrM2; rw [hL2] at h1; cases h1
    have hL3 : w3.heap[L]? = some (.cells #[.slice (some ⟨g, 0, none⟩) (n + 1) cap, .int .i64 at0, .pointer (some ⟨m', 0, none⟩)] 67 (0, 0)) := by rw [hold3 L hlt hLr]; exact hL2
    have hLoc3 := Loc.of_heap hL3
    have hd0 := hLoc3.c0
    have hd1 := hLoc3.c1
    have hd2 := hLoc3.c2
    have hmr : m' ≠ r := fun e => by subst e; obtain ⟨es, c, h1, _⟩ := hrM2; rw [hmb2] at h1; cases h1
    have hmb3 : w3.heap[m']? = some (.cells #[pv, .map (some r)] 71 (0, 0)) := by rw [hold3 m' hmlt hmr]; exact hmb2
    obtain ⟨w4, hput4, hm4, on4⟩ := run_put Try.underlying28 Try.underlying9 hgM3 name (entV (.slice (some ⟨g, 0, none⟩) (n + 1) cap) at0 (some ⟨m', 0, none⟩))
    have fr4 : Fr (fun k => k = gm ∨ own k) w w4 := fr3.only on4 (fun _ => .inl rfl)
    have hgmo : ∀ k, own k → k ≠ gm := fun k hk e => hgo (e ▸ hk)
    have hS4 : Sl w4 9 (.slice (some ⟨g, 0, none⟩) (n + 1) cap) (strs e.roles ++ [.string role]) := hS2.of_block (fun k hk => by
      obtain ⟨cur, hcur⟩ := hS2.block hk
      rw [on4.block k (fun e => by subst e; exact nomap hS2 hk hm2), hold3 k (Array.getElem?_eq_some_iff.1 hcur).1 (fun e => by subst e; exact nomap hS2 hk hrM2)])
    have hmb4 : w4.heap[m']? = some (.cells #[pv, .map (some r)] 71 (0, 0)) := by rw [on4.block m' (hgmo m' hmo)]; exact hmb3
    have hpv4 : Sl w4 3 pv [] := hpv2.of_block (fun k hk => by
      obtain ⟨cur, hcur⟩ := hpv2.block hk
      rw [on4.block k (hgmo k (hpo k hk)), hold3 k (Array.getElem?_eq_some_iff.1 hcur).1 (fun e => by subst e; exact nomap hpv2 hk hrM2)])
    have hrM4 : MapIs w4 r ((e.roles ++ [role]).zip (ints (e.pls ++ [-1]))) := by
      rw [← zip_put lenE hrn]
      exact hm3.of_block (on4.block r (fun e => hgr0 e.symm))
    unfold entV at hput4
    clear on3 on4 hm2 hS2 fr2 hL2 hLoc fr3 hold3 hgM3 hL3 hLoc3 hmb2 hmb3 hpv2 hrM2 hm3
    go_wp2_with fail
    go_end0
    refine ⟨rfl, _, some ⟨m', 0, none⟩, hm4, ⟨?_, ?_, ?_, ?_, ?_, ?_, ?_, ?_⟩, fr4⟩
    · rw [strs_snoc]; exact hS4
    · intro k hk
      simp [Value.ownBlock] at hk
      subst hk
      rcases hg2 with h | h
      · exact .inl (rownW _ h.symm)
      · exact .inr h
    · simp
    · simp [lenE]
    · rw [List.getElem?_append_left (by omega)]; exact firstE
    · intro h; cases h
    · intro h p hp
      simp only [List.mem_append, List.mem_singleton] at hp
      rcases hp with hp | hp
      · exact noE.out trivial p hp
      · exact hp
    · exact ⟨m', pv, some r, rfl, .inl hmo, hmb4, hpv4, fun k hk => .inl (hpo k hk), fun h => by have := Hl.out; simp at h; omega, fun _ => ⟨r, rfl, .inl hro, hrM4⟩, ⟨fun _ => by have := Hl.out; simp; omega, fun h => by cases h⟩⟩

end Go.Proofs.Qxb6000628a
