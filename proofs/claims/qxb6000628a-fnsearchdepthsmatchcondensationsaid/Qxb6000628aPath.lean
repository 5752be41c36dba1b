/-
  The search (func 53): what its turns do to the maps; the path in memory.
-/
import Derived.Test.Qxb6000628aSet56
import Derived.Test.Qxb6000628aTurns
import Derived.BigQuiet
set_option linter.unusedVariables false
namespace Go.Proofs.Qxb6000628a
open Go.RowKit

theorem roles44d (gm B0 : Nat) (placed : Bool) (own : Nat → Nat) (E : List Ent) (s : ByteArray) (n : Nat) (w : World) (h : Graph w gm B0 placed own E) (hn : (rolesIn E s).length = n) :
    ∃ X c ad f, Rl w X n c ad f ∧ (∀ i, i < n → (rolesIn E s)[i]? = some (f i)) ∧ ∀ w' : World, w'.heap = w.heap → Calls Try.prog 44 #[.map (some gm), .string s] w' fun e w'' => e = .returned (.slice X n c) ∧ w'' = w' := by
  have hf : ∀ i, i < n → (rolesIn E s)[i]? = some ((rolesIn E s).getD i ByteArray.empty) := fun i hi => by
    rw [List.getD_eq_getElem?_getD, List.getElem?_eq_getElem (by omega)]; rfl
  obtain ⟨l, hm, ⟨hfd, hno⟩ | ⟨e, i, rv, at0, mo, hfd, hno, he⟩⟩ := h.look s
  · have hr : rolesIn E s = [] := by simp [rolesIn, hfd]
    have h0 : n = 0 := by rw [← hn, hr]; rfl
    subst h0
    refine ⟨none, 0, fun _ => ⟨0, 0, none⟩, fun i => (rolesIn E s).getD i ByteArray.empty, ⟨fun k hk => by omega, fun k hk => by omega⟩, hf, fun w' hw' => ?_⟩
    exact rolesOf_none gm l s w' (hm.of_block (by rw [hw'])) hno
  · have hr : rolesIn E s = e.roles := by simp [rolesIn, hfd]
    have hcall : ∀ w' : World, w'.heap = w.heap → Calls Try.prog 44 #[.map (some gm), .string s] w' fun e w'' => e = .returned rv ∧ w'' = w' := fun w' hw' => rolesOf_any gm l s rv at0 mo w' (hm.of_block (by rw [hw'])) hno
    have hl : (strs e.roles).length = n := by rw [← hn, hr]; simp [strs]
    obtain ⟨a, c, hv⟩ := slice_of_Sl he.roles
    rw [hl] at hv
    by_cases h0 : 0 < n
    · obtain ⟨b, o, cap, hv2, hc⟩ := he.roles.at (by omega)
      rw [hl] at hv2
      rw [hv2] at hcall
      refine ⟨_, _, fun i => ⟨b, o + i, none⟩, fun i => (rolesIn E s).getD i ByteArray.empty, ⟨fun k hk w' => ?_, fun k hk => ?_⟩, hf, hcall⟩
      · have hc : (0 : Int) ≤ (k : Int) ∧ (k : Int) < (n : Int) := by omega
        simp [go_sem, hc, Try.underlying22]
      · refine hc k _ ?_
        simp only [strs, List.getElem?_map]
        rw [← hr, hf k hk]
        rfl
    · rw [hv] at hcall
      exact ⟨a, c, fun _ => ⟨0, 0, none⟩, fun i => (rolesIn E s).getD i ByteArray.empty, ⟨fun k hk => by omega, fun k hk => by omega⟩, hf, hcall⟩

section
variable {s : Ts ByteArray} {ld li ll : List (ByteArray × Value)}

theorem Rel.next (h : Rel s ld li ll) (p : ByteArray) : Rel (s.next p) ld li ll := ⟨h.d, h.n, h.i, h.l⟩

theorem Rel.reach (h : Rel s ld li ll) {r : ByteArray} (hr : s.idx r = none) : Rel (s.reach r) ld (mput li r (.int .i64 (s.n : Int))) (mput ll r (.int .i64 (s.n : Int))) := by
  have hg : mget li r = none := by rw [h.i, hr]; rfl
  refine ⟨h.d, ?_, fun v => ?_, fun v hv => ?_⟩
  · rw [mput_of_none hg]
    simp [Ts.reach, h.n]
  · rw [mget_mput, h.i]
    by_cases e : r = v
    · subst e
      rw [if_pos rfl]
      show _ = intV (upd s.idx r (some s.n) r)
      rw [upd_same]; rfl
    · rw [if_neg e]
      show _ = intV (upd s.idx r (some s.n) v)
      rw [upd_other _ _ (fun e' => e e'.symm)]
  · rw [mget_mput]
    by_cases e : r = v
    · subst e
      rw [if_pos rfl]
      show _ = some (Value.int .i64 ((upd s.low r s.n r : Nat) : Int))
      rw [upd_same]
    · rw [if_neg e]
      have hne : v ≠ r := fun e' => e e'.symm
      have hv' : upd s.idx r (some s.n) v ≠ none := hv
      rw [upd_other _ _ hne] at hv'
      show _ = some (Value.int .i64 ((upd s.low r s.n v : Nat) : Int))
      rw [upd_other _ _ hne]
      exact h.l v hv'

theorem Rel.lower (h : Rel s ld li ll) (p : ByteArray) (m : Nat) : Rel (s.lower p m) ld li (mput ll p (.int .i64 ((min (s.low p) m : Nat) : Int))) := by
  refine ⟨h.d, h.n, h.i, fun v hv => ?_⟩
  rw [mget_mput]
  by_cases e : p = v
  · subst e
    rw [if_pos rfl]
    show _ = some (Value.int .i64 ((upd s.low p (min (s.low p) m) p : Nat) : Int))
    rw [upd_same]
  · rw [if_neg e]
    show _ = some (Value.int .i64 ((upd s.low p (min (s.low p) m) v : Nat) : Int))
    rw [upd_other _ _ (fun e' => e e'.symm)]
    exact h.l v hv

theorem Rel.settle (h : Rel s ld li ll) {ld' : List (ByteArray × Value)} {k d : Nat} (hd : ∀ v, mget ld' v = intV (setDep s.dep (s.stack.drop k) d v)) : Rel (s.settle k d) ld' li ll := ⟨hd, h.n, h.i, h.l⟩
end

/-- The path's cells, from the bottom up. -/
def steps (pr : ByteArray → Nat) (l : List ByteArray) : List Value := l.flatMap (fun v => [.string v, .int .i64 (pr v : Int)])

theorem steps_append (pr : ByteArray → Nat) (l m : List ByteArray) : steps pr (l ++ m) = steps pr l ++ steps pr m := by simp [steps]
theorem steps_length (pr : ByteArray → Nat) : ∀ l : List ByteArray, (steps pr l).length = l.length * 2
  | [] => rfl
  | a :: l => by
    have := steps_length pr l
    simp [steps] at this ⊢
    omega
theorem steps_congr {pr pr' : ByteArray → Nat} {l : List ByteArray} (h : ∀ v ∈ l, pr v = pr' v) : steps pr l = steps pr' l := by
  unfold steps
  induction l with
  | nil => rfl
  | cons a l ih =>
    simp only [List.flatMap_cons]
    rw [h a List.mem_cons_self, ih (fun v hv => h v (List.mem_cons_of_mem _ hv))]

theorem Try.info96 : (Try.prog.info? 96).map (fun i => (i.zero, i.size, i.bytes)) = some (some (.agg #[.string ByteArray.empty, .int .i64 0]), 2, 24) := by kernel_rfl

end Go.Proofs.Qxb6000628a
