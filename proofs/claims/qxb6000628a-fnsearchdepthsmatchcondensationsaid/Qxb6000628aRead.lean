/-
  The readers of the graph: rolesOf, many, byRole, placeAt by name.
-/
import Derived.Test.Qxb6000628aGraphAdd
set_option linter.unusedVariables false
namespace Go.Proofs.Qxb6000628a
open Go.RowKit

/-- What the graph's map holds at a name. -/
theorem Graph.look {w : World} {gm B0 : Nat} {placed : Bool} {own : Nat → Nat} {E : List Ent} (h : Graph w gm B0 placed own E) (s : ByteArray) :
    ∃ l, MapIs w gm l ∧ ((findE E s = none ∧ mget l s = none) ∨ ∃ e i rv at0 mo, findE E s = some e ∧ mget l s = some (entV rv at0 mo) ∧ EntAt w (fun b => own b = i + 1) placed e rv at0 mo) := by
  obtain ⟨⟨l, h1, h2⟩, _⟩ := h
  refine ⟨l, h1, ?_⟩
  cases hf : findE E s with
  | none => exact .inl ⟨rfl, h2.none hf⟩
  | some e =>
    obtain ⟨i, rv, at0, mo, _, _, g3, g4, _⟩ := h2.found hf
    exact .inr ⟨e, i, rv, at0, mo, rfl, g3, g4⟩

theorem rolesOfG (gm B0 : Nat) (placed : Bool) (own : Nat → Nat) (E : List Ent) (s : ByteArray) (w : World) (h : Graph w gm B0 placed own E) :
    Calls Try.prog 44 #[.map (some gm), .string s] w fun e w' => ∃ a c, e = .returned (.slice a (rolesIn E s).length c) ∧ Sl w 9 (.slice a (rolesIn E s).length c) (strs (rolesIn E s)) ∧ w = w' := by
  obtain ⟨l, hm, ⟨hf, hn⟩ | ⟨e, i, rv, at0, mo, hf, hn, he⟩⟩ := h.look s
  · refine (rolesOf_none gm l s w hm hn).mono ?_
    rintro en w' ⟨rfl, rfl⟩
    have hr : rolesIn E s = [] := by simp [rolesIn, hf]
    exact ⟨none, 0, by rw [hr]; rfl, by rw [hr]; exact Sl.nil _ _, rfl⟩
  · refine (rolesOf_any gm l s rv at0 mo w hm hn).mono ?_
    rintro en w' ⟨rfl, rfl⟩
    have hr : rolesIn E s = e.roles := by simp [rolesIn, hf]
    obtain ⟨a, c, hv⟩ := slice_of_Sl he.roles
    have hl : (strs e.roles).length = e.roles.length := by simp [strs]
    rw [hl] at hv
    exact ⟨a, c, by rw [hr, hv], by rw [hr, ← hv]; exact he.roles, rfl⟩

theorem ZZRolesOf_any (gm B0 : Nat) (placed : Bool) (own : Nat → Nat) (E : List Ent) (s : ByteArray) (w : World) (h : Graph w gm B0 placed own E) :
    Calls Try.prog 15 #[.map (some gm), .string s] w fun e w' => ∃ a c, e = .returned (.slice a (rolesIn E s).length c) ∧ Sl w 9 (.slice a (rolesIn E s).length c) (strs (rolesIn E s)) ∧ w = w' := by
  go_enter Try.func15, Try.ntmps15
  go_wp2_with (go_at_call 44; refine (rolesOfG gm B0 placed own E s _ h).mono ?_; rintro en w' ⟨a, c, rfl, hs, rfl⟩)
  go_ret
  exact ⟨a, c, rfl, hs, rfl⟩

theorem ZZNew_any (w : World) : Calls Try.prog 13 #[] w fun e w' => e = .returned (.map (some w.heap.size)) ∧ w' = w.alloc (.map #[] 0) := by
  have hmm := @run_makeMap Try.prog
  go_enter Try.func13, Try.ntmps13
  go_wp2
  go_ret
  exact ⟨rfl, rfl⟩

theorem ZZAddLink_any (gm b B0 : Nat) (placed : Bool) (own : Nat → Nat) (E : List Ent) (name role : ByteArray) (at_ : Int) (w : World) (hG : Graph w gm B0 placed own E) (hb : w.heap[b]? = some (.cells #[.string name, .string role] 9 (0, 0)))
    (hob : own b = 0) (hbB : B0 ≤ b) (hat : placed = true → at_ ≠ -1) (hat' : placed = false → at_ = -1) (hnd : (rolesIn E name ++ [role]).Nodup) (hlen : (rolesIn E name).length ≤ 1000000) :
    Calls Try.prog 14 #[.map (some gm), .slice (some ⟨b, 0, none⟩) 2 2, .int .i64 at_] w fun en w' => en = .returned (.tuple #[]) ∧ Below B0 w w' ∧ ∃ own', Graph w' gm B0 placed own' (addE E name role at_) := by
  go_enter Try.func14, Try.ntmps14
  go_wp2_with (go_at_call 43; refine (addLink_any gm b B0 placed own E name role at_ _ hG hb hob hbB hat hat' hnd hlen).mono ?_; rintro en w' ⟨rfl, h1, h2⟩)
  go_end0
  exact ⟨rfl, h1, h2⟩

/-- The value at a name: the zero entry where there is none. -/
theorem Graph.val {w : World} {gm B0 : Nat} {placed : Bool} {own : Nat → Nat} {E : List Ent} (h : Graph w gm B0 placed own E) (s : ByteArray) :
    ∃ rv at0 mo, (∀ w', w'.heap[gm]? = w.heap[gm]? → (Instr.lookup 28 (.map (some gm)) (.string s) false).run Try.prog w' = .ok (.agg #[rv, .int .i64 at0, .pointer mo]) w') ∧ (∃ a n c, rv = .slice a n c) ∧
      ((findE E s = none ∧ mo = none) ∨ ∃ e i, findE E s = some e ∧ EntAt w (fun b => own b = i + 1) placed e rv at0 mo) := by
  obtain ⟨l, hm, ⟨hf, hn⟩ | ⟨e, i, rv, at0, mo, hf, hn, he⟩⟩ := h.look s
  · refine ⟨.slice none 0 0, 0, none, fun w' hw' => ?_, ⟨_, _, _, rfl⟩, .inl ⟨hf, rfl⟩⟩
    have := run_look_none Try.underlying28 Try.underlying9 (hm.of_block hw') hn (zero67 w') false
    simpa using this
  · refine ⟨rv, at0, mo, fun w' hw' => ?_, ?_, .inr ⟨e, i, hf, he⟩⟩
    · have := run_look Try.underlying28 Try.underlying9 (hm.of_block hw') hn false
      simpa [entV] using this
    · obtain ⟨a, c, hv⟩ := slice_of_Sl he.roles
      exact ⟨a, _, c, hv⟩

/-- 'more' and its map. -/
theorem EntAt.many {w : World} {own : Nat → Prop} {placed : Bool} {e : Ent} {rv : Value} {at0 : Int} {mo : Option Addr} (h : EntAt w own placed e rv at0 mo) :
    (mo = none ∧ e.roles.length ≤ 8) ∨ ∃ m rm, mo = some ⟨m, 0, none⟩ ∧ w.cell? ⟨m, 1, none⟩ = some (.map rm) ∧ rm.isSome = decide (8 < e.roles.length) ∧ (8 < e.roles.length → ∃ r, rm = some r ∧ MapIs w r (e.roles.zip (ints e.pls))) := by
  have hm := h.more
  cases mo with
  | none => exact .inl ⟨rfl, hm.1⟩
  | some a =>
    obtain ⟨m, pv, rm, h1, h2, h3, h4, h5, h6, h7, h8⟩ := hm
    refine .inr ⟨m, rm, by rw [h1], by simp [World.cell?, h3], ?_, fun h => ?_⟩
    · by_cases hl : 8 < e.roles.length
      · obtain ⟨r, r1, _⟩ := h7 hl
        simp [r1, hl]
      · rw [h6 (by omega)]
        simp [hl]
    · obtain ⟨r, r1, _, r3⟩ := h7 h
      exact ⟨r, r1, r3⟩

set_option maxRecDepth 100000 in
theorem ZZMany_any (gm B0 : Nat) (placed : Bool) (own : Nat → Nat) (E : List Ent) (s : ByteArray) (w : World) (h : Graph w gm B0 placed own E) :
    Calls Try.prog 17 #[.map (some gm), .string s] w fun e w' => e = .returned (.bool (decide (8 < (rolesIn E s).length))) ∧ Below w.heap.size w w' := by
  obtain ⟨rv, at0, mo, hl, _, hc⟩ := h.val s
  have hl1 := hl w rfl
  clear hl
  rcases hc with ⟨hf, rfl⟩ | ⟨e, i, hf, he⟩
  · have hd : decide (8 < (rolesIn E s).length) = false := by simp [rolesIn, hf]
    rw [hd]
    go_enter Try.func17, Try.ntmps17
    go_wp2_with (go_at_call 45; refine (many_nil _ _ _).mono ?_; rintro en w' ⟨rfl, rfl⟩)
    go_ret
    exact ⟨rfl, (Below.refl _ _).alloc (Nat.le_refl _) _⟩
  · have hr : rolesIn E s = e.roles := by simp [rolesIn, hf]
    rw [hr]
    rcases he.many with ⟨rfl, h8⟩ | ⟨m, rm, rfl, hcell, hrm, _⟩
    · have hd : decide (8 < e.roles.length) = false := by simp; omega
      rw [hd]
      go_enter Try.func17, Try.ntmps17
      go_wp2_with (go_at_call 45; refine (many_nil _ _ _).mono ?_; rintro en w' ⟨rfl, rfl⟩)
      go_ret
      exact ⟨rfl, (Below.refl _ _).alloc (Nat.le_refl _) _⟩
    · rw [← hrm]
      have Hrm := hide hrm
      clear hrm
      go_enter Try.func17, Try.ntmps17
      go_wp2_with (go_at_call 45; refine (many_some _ _ m rm _ hcell).mono ?_; rintro en w' ⟨rfl, rfl⟩)
      go_ret
      exact ⟨rfl, (Below.refl _ _).alloc (Nat.le_refl _) _⟩

theorem mget_zip {s : ByteArray} {p : Int} : ∀ (l : List ByteArray) (m : List Int) (k : Nat), l.Nodup → l[k]? = some s → m[k]? = some p → mget (l.zip (ints m)) s = some (.int .i64 p)
  | [], _, _, _, h, _ => by simp at h
  | _ :: _, [], _, _, _, h => by simp at h
  | x :: l, y :: m, 0, _, h1, h2 => by
    simp at h1 h2
    subst h1 h2
    simp [ints, mget]
  | x :: l, y :: m, k + 1, hn, h1, h2 => by
    simp at h1 h2
    rw [List.nodup_cons] at hn
    have hx : ¬ x = s := fun e => hn.1 (e ▸ List.mem_of_getElem? h1)
    have := mget_zip l m k hn.2 h1 h2
    simp only [ints, List.map_cons, List.zip_cons_cons, mget, hx, if_false]
    exact this

set_option maxRecDepth 100000 in
theorem ZZByRoleLen_any (gm B0 : Nat) (placed : Bool) (own : Nat → Nat) (E : List Ent) (s : ByteArray) (w : World) (h : Graph w gm B0 placed own E) (h8 : 8 < (rolesIn E s).length) :
    Calls Try.prog 18 #[.map (some gm), .string s] w fun e w' => e = .returned (.int .i64 (rolesIn E s).length) ∧ Below w.heap.size w w' := by
  obtain ⟨rv, at0, mo, hl, ⟨ra, n, rc, rfl⟩, hc⟩ := h.val s
  have hl1 := hl w rfl
  clear hl
  rcases hc with ⟨hf, rfl⟩ | ⟨e, i, hf, he⟩
  · simp [rolesIn, hf] at h8
  · have hr : rolesIn E s = e.roles := by simp [rolesIn, hf]
    rw [hr] at h8 ⊢
    rcases he.many with ⟨rfl, h9⟩ | ⟨m, rm, rfl, hcell, hrm, hM⟩
    · omega
    · obtain ⟨r, hr1, hMr⟩ := hM h8
      subst hr1
      have hml : m < w.heap.size := World.block_lt_of_cell? w _ hcell
      have hlen := run_mlen (P := Try.prog) (w := (w.alloc (.cells #[.slice ra n rc, .int .i64 at0, .pointer (some ⟨m, 0, none⟩)] 67)).alloc (.cells #[.slice ra n rc, .int .i64 at0, .pointer (some ⟨m, 0, none⟩)] 67)) Try.underlying69
        (hMr.of_block (by rw [Go.Deep.blk_alloc_lt _ _ _ (by simp; have := hMr.lt; omega), Go.Deep.blk_alloc_lt _ _ _ hMr.lt])) 3
      have hzl : (e.roles.zip (ints e.pls)).length = e.roles.length := by simp [ints, he.len]
      rw [hzl] at hlen
      clear hM hMr hrm hzl
      have Hh := hide h
      have He := hide he
      clear h he
      go_enter Try.func18, Try.ntmps18
      go_wp2_with (first
        | (go_at_call 45; refine (many_some _ _ m (some r) _ (by simp [go_sem, hcell, hml])).mono ?_; rintro en w' ⟨rfl, rfl⟩)
        | (at_len; refine wpList_mlen rfl _ 69 rfl (by exact hlen) ?_))
      go_ret
      exact ⟨rfl, ((Below.refl _ _).alloc (Nat.le_refl _) _).alloc (by simp) _⟩

/-- Loads of the local copy behind two new blocks. -/
theorem loc_new (w : World) (x y z : Value) : Loc (w.alloc (.cells #[x, y, z] 67)) w.heap.size x y z := Loc.of_heap (Go.Deep.blk_alloc_new _ _)

set_option maxRecDepth 100000 in
theorem ZZPlaceAt_any (gm B0 : Nat) (placed : Bool) (own : Nat → Nat) (E : List Ent) (s : ByteArray) (k : Nat) (p : Int) (w : World) (h : Graph w gm B0 placed own E) (hp : (plsIn E s)[k]? = some p) (hlen : (rolesIn E s).length ≤ 1000000) :
    Calls Try.prog 19 #[.map (some gm), .string s, .int .i64 k] w fun e w' => e = .returned (.int .i64 p) ∧ Below w.heap.size w w' := by
  obtain ⟨rv, at0, mo, hl, ⟨ra, n, rc, rfl⟩, hc⟩ := h.val s
  have hl1 := hl w rfl
  clear hl
  rcases hc with ⟨hf, rfl⟩ | ⟨e, i, hf, he⟩
  · simp [plsIn, hf] at hp
  · have hr : plsIn E s = e.pls := by simp [plsIn, hf]
    have hr' : rolesIn E s = e.roles := by simp [rolesIn, hf]
    rw [hr] at hp
    rw [hr'] at hlen
    have hLoc := loc_new w (.slice ra n rc) (.int .i64 at0) (.pointer mo)
    suffices hcall : Calls Try.prog 46 #[.pointer (some ⟨w.heap.size, 0, none⟩), .int .i64 (k : Int)] (w.alloc (.cells #[.slice ra n rc, .int .i64 at0, .pointer mo] 67)) fun en w' => en = .returned (.int .i64 p) ∧ w' = (w.alloc (.cells #[.slice ra n rc, .int .i64 at0, .pointer mo] 67)) by
      have Hh := hide h
      have He := hide he
      have Hp := hide hp
      have HL := hide hLoc
      have Hc := hide hcall
      clear h he hp hLoc hcall
      go_enter Try.func19, Try.ntmps19
      go_wp2_with (go_at_call 46; refine (Hc.out).mono ?_; rintro en w' ⟨rfl, rfl⟩)
      go_ret
      exact ⟨rfl, (Below.refl _ _).alloc (Nat.le_refl _) _⟩
    cases placed with
    | false =>
      have h1 := he.no rfl at0 (List.mem_of_getElem? he.first)
      have h2 := he.no rfl p (List.mem_of_getElem? hp)
      subst h1 h2
      exact placeAt_un _ _ _ hLoc.c1
    | true =>
      have hm := he.more
      cases mo with
      | none =>
        have h1 := hm.2 rfl
        have hk : k = 0 := by have := (List.getElem?_eq_some_iff.1 hp).1; have := he.len; omega
        subst hk
        rw [he.first] at hp
        injection hp with hp
        subst hp
        exact placeAt_zero _ _ _ hLoc.c1
      | some a =>
        obtain ⟨m, pv, rm, m1, m2, m3, m4, m5, m6, m7, m8, m9⟩ := hm
        subst m1
        have m4 : Sl w 3 pv (ints (e.pls.drop 1)) := m4
        have hn2 := m9 rfl
        have hlp : (ints (e.pls.drop 1)).length = e.pls.length - 1 := by simp [ints]
        obtain ⟨pg, po, pcap, hv, hcells⟩ := m4.at (by rw [hlp, he.len]; omega)
        rw [hlp] at hv
        subst hv
        have hml : m < w.heap.size := (Array.getElem?_eq_some_iff.1 m3).1
        have hcm : (w.alloc (.cells #[.slice ra n rc, .int .i64 at0, .pointer (some ⟨m, 0, none⟩)] 67)).cell? ⟨m, 0, none⟩ = some (.slice (some ⟨pg, po, none⟩) (e.pls.length - 1) pcap) := by
          rw [World.cell?_alloc_lt _ _ _ hml]
          simp [World.cell?, m3]
        cases k with
        | zero =>
          rw [he.first] at hp
          injection hp with hp
          subst hp
          exact placeAt_zero _ _ _ hLoc.c1
        | succ j =>
          have hj : j + 1 < e.pls.length := (List.getElem?_eq_some_iff.1 hp).1
          have e1 : (List.drop 1 e.pls)[j]? = some p := by rw [List.getElem?_drop, Nat.add_comm]; exact hp
          have hcell := hcells j (.int .i64 p) (by simp only [ints, List.getElem?_map, e1]; rfl)
          have hcell' : (w.alloc (.cells #[.slice ra n rc, .int .i64 at0, .pointer (some ⟨m, 0, none⟩)] 67)).cell? ⟨pg, po + j, none⟩ = some (.int .i64 p) := by
            rw [World.cell?_alloc_lt _ _ _ (World.block_lt_of_cell? w _ hcell)]
            exact hcell
          have := placeAt_more w.heap.size m pg po pcap (e.pls.length - 1) j at0 p _ hLoc.c1 hLoc.c2 hcm (he.yes rfl) (by omega) (by have := he.len; omega) hcell'
          simpa using this

set_option maxRecDepth 100000 in
theorem ZZByRole_any (gm B0 : Nat) (placed : Bool) (own : Nat → Nat) (E : List Ent) (s role : ByteArray) (k : Nat) (p : Int) (w : World) (h : Graph w gm B0 placed own E) (h8 : 8 < (rolesIn E s).length) (hnd : (rolesIn E s).Nodup)
    (hr : (rolesIn E s)[k]? = some role) (hp : (plsIn E s)[k]? = some p) :
    Calls Try.prog 20 #[.map (some gm), .string s, .string role] w fun e w' => e = .returned (.tuple #[.int .i64 p, .bool true]) ∧ Below w.heap.size w w' := by
  obtain ⟨rv, at0, mo, hl, ⟨ra, n, rc, rfl⟩, hc⟩ := h.val s
  have hl1 := hl w rfl
  clear hl
  rcases hc with ⟨hf, rfl⟩ | ⟨e, i, hf, he⟩
  · simp [rolesIn, hf] at h8
  · have hr1 : rolesIn E s = e.roles := by simp [rolesIn, hf]
    have hr2 : plsIn E s = e.pls := by simp [plsIn, hf]
    rw [hr1] at h8 hr hnd
    rw [hr2] at hp
    rcases he.many with ⟨rfl, h9⟩ | ⟨m, rm, rfl, hcell, hrm, hM⟩
    · omega
    · obtain ⟨r, hr3, hMr⟩ := hM h8
      subst hr3
      have hml : m < w.heap.size := World.block_lt_of_cell? w _ hcell
      have hlk := run_look (P := Try.prog) (w := (w.alloc (.cells #[.slice ra n rc, .int .i64 at0, .pointer (some ⟨m, 0, none⟩)] 67)).alloc (.cells #[.slice ra n rc, .int .i64 at0, .pointer (some ⟨m, 0, none⟩)] 67)) Try.underlying69 Try.underlying9
        (hMr.of_block (by rw [Go.Deep.blk_alloc_lt _ _ _ (by simp; have := hMr.lt; omega), Go.Deep.blk_alloc_lt _ _ _ hMr.lt])) (mget_zip _ _ k hnd hr hp) true
      simp only [if_true] at hlk
      have Hh := hide h
      have He := hide he
      clear hM hMr hrm h he hr hp hnd hr1 hr2
      go_enter Try.func20, Try.ntmps20
      go_wp2_with (go_at_call 45; refine (many_some _ _ m (some r) _ (by simp [go_sem, hcell, hml])).mono ?_; rintro en w' ⟨rfl, rfl⟩)
      go_ret2
      exact ⟨rfl, ((Below.refl _ _).alloc (Nat.le_refl _) _).alloc (by simp) _⟩

end Go.Proofs.Qxb6000628a
