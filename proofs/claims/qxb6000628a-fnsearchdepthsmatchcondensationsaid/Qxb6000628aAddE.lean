/-
  addLink onto a name that is there, with a place: the second role.
-/
import Derived.Test.Qxb6000628aAddD
set_option linter.unusedVariables false
namespace Go.Proofs.Qxb6000628a
open Go.RowKit

set_option maxHeartbeats 2000000 in
set_option maxRecDepth 100000 in
/-- A name that is there, with a place, its second role. -/
theorem add_second (gm b : Nat) (name role : ByteArray) (l : List (ByteArray × Value)) (own : Nat → Prop) (placed : Bool) (e : Ent) (ra : Option Addr) (n rc : Nat) (at0 at_ : Int) (w : World) (hm : MapIs w gm l) (hb : w.heap[b]? = some (.cells #[.string name, .string role] 9 (0, 0)))
    (ho : ∀ k, own k → k < w.heap.size) (hgo : ¬ own gm) (hn : mget l name = some (entV (.slice ra n rc) at0 (none))) (he : EntAt w own placed e (.slice ra n rc) at0 (none)) (hlen : e.roles.length = n) (hpl : placed = true) (h1 : 1 ≤ n) (h1b : n ≤ 1) (hat : at_ ≠ -1) :
    Calls Try.prog 43 #[.map (some gm), .slice (some ⟨b, 0, none⟩) 2 2, .int .i64 at_] w fun en w' => en = .returned (.tuple #[]) ∧ ∃ rv' mo', MapIs w' gm (mput l name (entV rv' at0 mo')) ∧
      EntAt w' (fun k => own k ∨ w.heap.size ≤ k) placed { e with roles := e.roles ++ [role], pls := e.pls ++ [at_] } rv' at0 mo' ∧ Fr (fun k => k = gm ∨ own k) w w' := by
  subst hpl
  have hatb : (at_ != -1) = true := by simpa using hat
  have c0 : w.cell? ⟨b, 0, none⟩ = some (.string name) := by simp [World.cell?, hb]
  have c1 : w.cell? ⟨b, 1, none⟩ = some (.string role) := by simp [World.cell?, hb]
  have Hn := hide hn
  have Hl := hide hlen
  obtain ⟨i9, hi, hz0, hz1, hz2⟩ := info_parts Try.info9
  have hlenS : Hid ((strs e.roles).length = n) := by show _ = _; rw [← hlen]; simp [strs]
  clear hb hn hlen
  go_enter Try.func43, Try.ntmps43
  go_wp2_with fail
  go_quiet (fail)
  have hmW : MapIs (w.drewN nq) gm l := hm.of_block rfl
  have frW : Fr (fun k => k = gm ∨ own k) w (w.drewN nq) := (Fr.refl _ w).drewN nq
  have heW : EntAt (w.drewN nq) own true e (.slice ra n rc) at0 (none) := he.mono (fun _ _ => rfl) (fun _ h => h)
  have hoW : ∀ k, own k → k < (w.drewN nq).heap.size := ho
  have szW : Hid ((w.drewN nq).heap.size = w.heap.size) := rfl
  generalize w.drewN nq = W at *
  clear hm c0 c1 he
  have hl := run_look Try.underlying28 Try.underlying9 hmW Hn.out true
  simp only [if_true, entV] at hl
  have hne : ∀ k, (Value.slice ra n rc).ownBlock = some k → k < W.heap.size := fun k hk => hoW k (heW.rown k hk)
  have hSl : Sl ((W.alloc (.cells #[.slice ra n rc, .int .i64 at0, .pointer (none)] 67)).alloc (.cells #[.string role] 9)) 9 (.slice ra n rc) (strs e.roles) :=
    heW.roles.of_block (fun k hk => by rw [Go.Deep.blk_alloc_lt _ _ _ (by simp; have := hne k hk; omega), Go.Deep.blk_alloc_lt _ _ _ (hne k hk)])
  go_wp2_with (at_builtin; go_must (refine wpList_app (xs := strs e.roles) (x := .string role) rfl _ _ 22 rfl Try.underlying22 hi hz0 hz1 hz2 rfl rfl ?hS rfl ?hx rfl n hlenS.out ?hb1 ?hb2 ?hK))
  case hS => exact hSl
  case hx => simp
  case hb1 => omega
  case hb2 => unfold maxLen; omega
  case hK =>
    intro g cap w1 hS1 hgr hloc
    have hL := loc_app hgr hne
    have hLoc := Loc.of_heap hL
    have hc0 := hLoc.c0
    have hc1 := hLoc.c1
    have hc2 := hLoc.c2
    have hf := hLoc.f
    have hlt := hLoc.lt
    have Hloc := hide hloc
    clear hLoc hloc hSl hl
    have hgL : g ≠ W.heap.size := fun e => by
      rcases Hloc.out with h | h
      · have := hne g h.symm; omega
      · omega
    obtain ⟨w2, hw2⟩ : ∃ w2, w2 = w1.setCell ⟨W.heap.size, 0, none⟩ (.slice (some ⟨g, 0, none⟩) (n + 1) cap) := ⟨_, rfl⟩
    have hL2 : w2.heap[W.heap.size]? = some (.cells #[.slice (some ⟨g, 0, none⟩) (n + 1) cap, .int .i64 at0, .pointer (none)] 67 (0, 0)) := by
      rw [hw2]; simp [World.setCell, Array.getElem?_modify, hL]
    have hS2 : Sl w2 9 (.slice (some ⟨g, 0, none⟩) (n + 1) cap) (strs e.roles ++ [.string role]) := by
      rw [hw2]
      exact hS1.of_block (fun k hk => Below.heap_setCell _ _ _ _ (by simp [Value.ownBlock] at hk; subst hk; exact hgL))
    have hold : ∀ k, k < W.heap.size → some k ≠ (Value.slice ra n rc).ownBlock → w2.heap[k]? = W.heap[k]? := fun k hk hkr => by
      rw [hw2, Below.heap_setCell _ _ _ _ (by show k ≠ W.heap.size; omega), hgr.block k (by simp; omega) hkr, Go.Deep.blk_alloc_lt _ _ _ (by simp; omega), Go.Deep.blk_alloc_lt _ _ _ hk]
    have fr1 : Fr (fun k => k = gm ∨ own k) w w1 := ((frW.alloc _).alloc _).grown hgr (fun k hk _ => .inr (heW.rown k hk))
    have fr2 : Fr (fun k => k = gm ∨ own k) w w2 := by rw [hw2]; exact fr1.setCell (fun h => by exfalso; have := szW.out; simp at h; omega) _
    have hgmW : gm ≠ W.heap.size := by have := hmW.lt; omega
    have hm2 : MapIs w2 gm l := hmW.of_block (hold gm hmW.lt (fun e => nomap heW.roles e.symm hmW))
    have hg2 : some g = (Value.slice ra n rc).ownBlock ∨ w.heap.size ≤ g := by
      rcases Hloc.out with h | h
      · exact .inl h
      · right; have := szW.out; omega
    have hsz2 : W.heap.size < w2.heap.size := (Array.getElem?_eq_some_iff.1 hL2).1
    have hgd : g < w2.heap.size := by obtain ⟨cur, hcur⟩ := hS2.block (k := g) rfl; exact (Array.getElem?_eq_some_iff.1 hcur).1
    have hltL : w.heap.size ≤ W.heap.size := by have := szW.out; omega
    have rownW := heW.rown
    have posE := heW.pos; have lenE := heW.len; have firstE := heW.first; have noE := hide heW.no; have yesE := hide heW.yes
    have Hw2 := hide hw2
    clear hw2
    have hpls1 : e.pls.drop 1 = [] := List.eq_nil_of_length_eq_zero (by simp [lenE, Hl.out]; omega)
    have Hpls1 := hide hpls1
    clear hpls1
    have hfz2 : w2.frozen? ⟨W.heap.size, 2, none⟩ = false := by simp [World.frozen?, hL2]
    go_wp2_with fail
    rw [← Hw2.out]
    have h12 : w1.heap.size = w2.heap.size := by rw [Hw2.out]; simp
    rw [h12]
    clear h12
    generalize W.heap.size = L at *
    clear hgr hL hc0 hc1 hc2 hf hlt hS1 fr1 frW hmW heW hold
    have hlt := (Loc.of_heap hL2).lt
    obtain ⟨m', hm'⟩ : ∃ m', m' = w2.heap.size := ⟨_, rfl⟩
    obtain ⟨wa, hwa⟩ : ∃ wa, wa = (w2.setCell ⟨L, 2, none⟩ (.pointer (some ⟨w2.heap.size, 0, none⟩))).alloc (.cells #[.slice none 0 0, .map none] 71) := ⟨_, rfl⟩
    have hLa : wa.heap[L]? = some (.cells #[.slice (some ⟨g, 0, none⟩) (n + 1) cap, .int .i64 at0, .pointer (some ⟨m', 0, none⟩)] 67 (0, 0)) := by
      rw [hwa, hm', Go.Deep.blk_alloc_lt _ _ _ (by simp; omega)]
      simp [World.setCell, Array.getElem?_modify, hL2]
    have hMa : wa.heap[m']? = some (.cells #[.slice none 0 0, .map none] 71 (0, 0)) := by
      have := Go.Deep.blk_alloc_new (w2.setCell ⟨L, 2, none⟩ (.pointer (some ⟨w2.heap.size, 0, none⟩))) (.cells #[.slice none 0 0, .map none] 71)
      rw [hwa, hm']
      simpa using this
    have holda : ∀ k, k < w2.heap.size → k ≠ L → wa.heap[k]? = w2.heap[k]? := fun k hk hkL => by
      rw [hwa, Go.Deep.blk_alloc_lt _ _ _ (by simp; omega), Below.heap_setCell _ _ _ _ hkL]
    have hma : MapIs wa gm l := hm2.of_block (holda gm hm2.lt (fun e => by subst e; obtain ⟨es, c, h1, _⟩ := hm2; rw [hL2] at h1; cases h1))
    have hSa : Sl wa 9 (.slice (some ⟨g, 0, none⟩) (n + 1) cap) (strs e.roles ++ [.string role]) := hS2.of_block (fun k hk => by
      obtain ⟨cur, hcur⟩ := hS2.block hk
      exact holda k (Array.getElem?_eq_some_iff.1 hcur).1 (fun e => by subst e; exact absurd (ne_types hL2 hcur) (by decide)))
    have fra : Fr (fun k => k = gm ∨ own k) w wa := by rw [hwa]; exact (fr2.setCell (fun h => by exfalso; simp at h; omega) _).alloc _
    have hmw : w.heap.size ≤ m' := by omega
    have hsza : wa.heap.size = w2.heap.size + 1 := by rw [hwa]; simp
    rw [← hwa, ← hm']
    have hmlta : m' < wa.heap.size := by omega
    clear hwa hm' holda hL2 hm2 hS2 fr2 hlt hfz2 hsza hsz2 hgd
    have hLoc := Loc.of_heap hLa
    have hc0 := hLoc.c0
    have hc1 := hLoc.c1
    have hc2 := hLoc.c2
    have hlt := hLoc.lt
    have hm0 : wa.cell? ⟨m', 0, none⟩ = some (.slice none 0 0) := by simp [World.cell?, hMa]
    obtain ⟨i3, gi, gz0, gz1, gz2⟩ := info_parts Try.info3
    obtain ⟨pg, pcap, w3, happ, hpv3, pgr, ploc⟩ := run_app (P := Try.prog) (w := (wa.alloc (.cells #[.int .i64 at_] 3)).drew) (t := 32) (ty := 32) (x := .int .i64 at_) (a := ⟨wa.heap.size, 0, none⟩) (xs := []) (v := .slice none 0 0) Try.underlying32 gi gz0 gz1 gz2 rfl
      (Sl.nil _ _) (by simp) rfl (by simp) (by unfold maxLen; simp) 1
    have hpg : w.heap.size ≤ pg := by
      rcases ploc with h | h
      · simp [Value.ownBlock] at h
      · rw [h]; simp; omega
    have hold3 : ∀ k, k < wa.heap.size → w3.heap[k]? = wa.heap[k]? := fun k hk => by
      rw [pgr.block k (by simp; omega) (by simp [Value.ownBlock])]
      exact Go.Deep.blk_alloc_lt _ _ _ hk
    have hL3 : w3.heap[L]? = some (.cells #[.slice (some ⟨g, 0, none⟩) (n + 1) cap, .int .i64 at0, .pointer (some ⟨m', 0, none⟩)] 67 (0, 0)) := by rw [hold3 L hlt]; exact hLa
    have hmb3 : w3.heap[m']? = some (.cells #[.slice none 0 0, .map none] 71 (0, 0)) := by rw [hold3 m' hmlta]; exact hMa
    have hLoc3 := Loc.of_heap hL3
    have hd2 := hLoc3.c2
    have hm30 : w3.cell? ⟨m', 0, none⟩ = some (.slice none 0 0) := by simp [World.cell?, hmb3]
    have hm3f : w3.frozen? ⟨m', 0, none⟩ = false := by simp [World.frozen?, hmb3]
    have Happ := hide happ
    clear happ
    go_cut [] (fun wx => wx = w3.setCell ⟨m', 0, none⟩ (.slice (some ⟨pg, 0, none⟩) (0 + 1) pcap))
    case first =>
      go_region_law (refine step_app rfl _ _ 32 32 rfl rfl (by exact Happ.out) ?_)
      all_goals (go_wp2_with fail; go_meet; rfl)
    case rest =>
      have hL4 : wc.heap[L]? = some (.cells #[.slice (some ⟨g, 0, none⟩) (n + 1) cap, .int .i64 at0, .pointer (some ⟨m', 0, none⟩)] 67 (0, 0)) := by
        rw [hcut, Below.heap_setCell _ _ _ _ (fun e => by subst e; exact absurd (ne_types hL3 hmb3) (by decide))]; exact hL3
      have hM4 : wc.heap[m']? = some (.cells #[.slice (some ⟨pg, 0, none⟩) (0 + 1) pcap, .map none] 71 (0, 0)) := by
        rw [hcut]; simp [World.setCell, Array.getElem?_modify, hmb3]
      have hold4 : ∀ k, k < wa.heap.size → k ≠ m' → wc.heap[k]? = wa.heap[k]? := fun k hk hkm => by
        rw [hcut, Below.heap_setCell _ _ _ _ hkm]; exact hold3 k hk
      have hm4 : MapIs wc gm l := hma.of_block (hold4 gm hma.lt (fun e => by subst e; obtain ⟨es, c, h1, _⟩ := hma; rw [hMa] at h1; cases h1))
      have hS4 : Sl wc 9 (.slice (some ⟨g, 0, none⟩) (n + 1) cap) (strs (e.roles ++ [role])) := by
        rw [strs_snoc]
        refine hSa.of_block (fun k hk => ?_)
        obtain ⟨cur, hcur⟩ := hSa.block hk
        exact hold4 k (Array.getElem?_eq_some_iff.1 hcur).1 (fun e => by subst e; exact absurd (ne_types hMa hcur) (by decide))
      have hdrop : (e.pls ++ [at_]).drop 1 = [at_] := by rw [List.drop_append_of_le_length (by omega), Hpls1.out]; rfl
      have hpv4 : Sl wc 3 (.slice (some ⟨pg, 0, none⟩) (0 + 1) pcap) (ints ((e.pls ++ [at_]).drop 1)) := by
        rw [hdrop]
        refine hpv3.of_block (fun k hk => ?_)
        obtain ⟨cur, hcur⟩ := hpv3.block hk
        rw [hcut, Below.heap_setCell _ _ _ _ (fun e => by subst e; exact absurd (ne_types hmb3 hcur) (by decide))]
      have fr4 : Fr (fun k => k = gm ∨ own k) w wc := by
        rw [hcut]
        exact (((fra.alloc _).drew).grown pgr (fun k hk _ => by simp [Value.ownBlock] at hk)).setCell (fun h => by exfalso; simp at h; omega) _
      clear hcut hold3 hold4 hL3 hmb3 hLoc3 hd2 hm30 hm3f Happ hpv3 pgr ploc hLa hMa hLoc hc0 hc1 hc2 hm0 hma hSa fra hlt hmlta hdrop
      have hLoc := Loc.of_heap hL4
      have hc0 := hLoc.c0
      have hc1 := hLoc.c1
      have hc2 := hLoc.c2
      have hlt := hLoc.lt
      have hcm : wc.cell? ⟨m', 1, none⟩ = some (.map none) := by simp [World.cell?, hM4]
      have hmlt : m' < wc.heap.size := (Array.getElem?_eq_some_iff.1 hM4).1
      have hd8 : decide ((8 : Int) < (n : Int) + 1) = false := by simp; omega
      go_wp2_with fail
      refine (many_some _ _ m' none _ hcm).mono ?_
      rintro en w' ⟨rfl, rfl⟩
      obtain ⟨w5, hput, hmE, on5⟩ := run_put Try.underlying28 Try.underlying9 (w := wc.alloc (.cells #[.slice (some ⟨g, 0, none⟩) (n + 1) cap, .int .i64 at0, .pointer (some ⟨m', 0, none⟩)] 67)) (hm4.of_block (Go.Deep.blk_alloc_lt _ _ _ hm4.lt)) name (entV (.slice (some ⟨g, 0, none⟩) (n + 1) cap) at0 (some ⟨m', 0, none⟩))
      have frE : Fr (fun k => k = gm ∨ own k) w w5 := (fr4.alloc _).only on5 (fun _ => .inl rfl)
      have hold5 : ∀ k, k < wc.heap.size → k ≠ gm → w5.heap[k]? = wc.heap[k]? := fun k hk hkg => by rw [on5.block k hkg, Go.Deep.blk_alloc_lt _ _ _ hk]
      have hSE : Sl w5 9 (.slice (some ⟨g, 0, none⟩) (n + 1) cap) (strs (e.roles ++ [role])) := hS4.of_block (fun k hk => by
        obtain ⟨cur, hcur⟩ := hS4.block hk
        exact hold5 k (Array.getElem?_eq_some_iff.1 hcur).1 (fun e => by subst e; exact nomap hS4 hk hm4))
      have hpvE : Sl w5 3 (.slice (some ⟨pg, 0, none⟩) (0 + 1) pcap) (ints ((e.pls ++ [at_]).drop 1)) := hpv4.of_block (fun k hk => by
        obtain ⟨cur, hcur⟩ := hpv4.block hk
        exact hold5 k (Array.getElem?_eq_some_iff.1 hcur).1 (fun e => by subst e; exact nomap hpv4 hk hm4))
      have hME : w5.heap[m']? = some (.cells #[.slice (some ⟨pg, 0, none⟩) (0 + 1) pcap, .map none] 71 (0, 0)) := by
        rw [hold5 m' hmlt (fun e => by subst e; obtain ⟨es, c, h1, _⟩ := hm4; rw [hM4] at h1; cases h1)]; exact hM4
      unfold entV at hput
      clear on5 hold5 hm4 hS4 hpv4 hM4 hL4
      go_wp2_with fail
      go_end0
      refine ⟨rfl, _, some ⟨m', 0, none⟩, hmE, ⟨hSE, ?_, ?_, ?_, ?_, ?_, ?_, ?_⟩, frE⟩
      · intro k hk
        simp [Value.ownBlock] at hk
        subst hk
        rcases hg2 with h | h
        · exact .inl (rownW _ h.symm)
        · exact .inr h
      · simp
      · simp [lenE]
      · rw [List.getElem?_append_left (by omega)]; exact firstE
      · exact fun _ => yesE.out (by simp)
      · intro h; cases h
      · exact ⟨m', _, none, rfl, .inr hmw, hME, hpvE, fun k hk => by simp [Value.ownBlock] at hk; subst hk; exact .inr hpg, fun _ => rfl, fun h => by have := Hl.out; simp at h; omega, ⟨fun h => (by cases h), fun _ => by have := Hl.out; simp; omega⟩⟩

end Go.Proofs.Qxb6000628a
