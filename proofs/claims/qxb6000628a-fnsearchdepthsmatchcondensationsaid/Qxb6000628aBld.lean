/-
  The graph after n links, plainly. No Go text here.
-/
import Derived.Test.Qxb6000628aPrem
set_option linter.unusedVariables false
namespace Go.Proofs.Qxb6000628a

/-- A link's place. -/
def plc (placed : Bool) (i : Nat) : Int := if placed then (i : Int) else -1

def bld (nm rl : Nat → ByteArray) (placed : Bool) : Nat → List Ent
  | 0 => []
  | i + 1 => addE (bld nm rl placed i) (nm i) (rl i) (plc placed i)

/-- The links of a name, in order. -/
def idxs (nm : Nat → ByteArray) (n : Nat) (s : ByteArray) : List Nat := (List.range n).filter (fun j => decide (nm j = s))

theorem idxs_succ (nm : Nat → ByteArray) (n : Nat) (s : ByteArray) : idxs nm (n + 1) s = if nm n = s then idxs nm n s ++ [n] else idxs nm n s := by
  unfold idxs
  rw [List.range_succ, List.filter_append]
  by_cases h : nm n = s <;> simp [h]

theorem idxs_length (nm : Nat → ByteArray) (s : ByteArray) : ∀ n, (idxs nm n s).length ≤ n
  | 0 => by simp [idxs]
  | n + 1 => by
    rw [idxs_succ]
    have := idxs_length nm s n
    split
    · simp; omega
    · omega

theorem idxs_lt {nm : Nat → ByteArray} {n : Nat} {s : ByteArray} {j : Nat} (h : j ∈ idxs nm n s) : j < n ∧ nm j = s := by
  unfold idxs at h
  simpa using h

theorem roles_bld (nm rl : Nat → ByteArray) (placed : Bool) (s : ByteArray) : ∀ n, rolesIn (bld nm rl placed n) s = (idxs nm n s).map rl
  | 0 => rfl
  | n + 1 => by
    show rolesIn (addE _ _ _ _) s = _
    rw [rolesIn_addE, idxs_succ, roles_bld nm rl placed s n]
    split <;> simp

theorem pls_bld (nm rl : Nat → ByteArray) (placed : Bool) (s : ByteArray) : ∀ n, plsIn (bld nm rl placed n) s = (idxs nm n s).map (plc placed)
  | 0 => rfl
  | n + 1 => by
    show plsIn (addE _ _ _ _) s = _
    rw [plsIn_addE, idxs_succ, pls_bld nm rl placed s n]
    split <;> simp

theorem idxs_pw (nm : Nat → ByteArray) (n : Nat) (s : ByteArray) : (idxs nm n s).Pairwise (· < ·) := by
  induction n with
  | zero => simp [idxs]
  | succ n ih =>
    rw [idxs_succ]
    split
    · rw [List.pairwise_append]
      refine ⟨ih, by simp, fun a ha b hb => ?_⟩
      simp at hb
      subst hb
      exact (idxs_lt ha).1
    · exact ih

theorem nodup_bld {nm rl : Nat → ByteArray} {n : Nat} (s : ByteArray) (h : Dist nm rl n) : ((idxs nm n s).map rl).Nodup := by
  rw [List.Nodup, List.pairwise_map]
  refine List.Pairwise.imp_of_mem ?_ (idxs_pw nm n s)
  intro a b ha hb hab e
  have h1 := idxs_lt ha
  have h2 := idxs_lt hb
  exact h b h2.1 a hab ⟨h1.2.trans h2.2.symm, e⟩

theorem Dist.mono {nm rl : Nat → ByteArray} {n m : Nat} (h : Dist nm rl n) (hm : m ≤ n) : Dist nm rl m := fun i hi => h i (by omega)

theorem nodup_step {nm rl : Nat → ByteArray} {placed : Bool} {n i : Nat} (h : Dist nm rl n) (hi : i < n) : (rolesIn (bld nm rl placed i) (nm i) ++ [rl i]).Nodup := by
  have := nodup_bld (nm i) (h.mono (show i + 1 ≤ n by omega))
  rw [idxs_succ, if_pos rfl, List.map_append] at this
  rw [roles_bld]
  exact this

theorem idxs_first {nm : Nat → ByteArray} {i : Nat} (h : First nm i) : ∀ k, k ≤ i → idxs nm k (nm i) = []
  | 0, _ => rfl
  | k + 1, hk => by
    rw [idxs_succ, if_neg (h k (by omega)), idxs_first h k (by omega)]

theorem idxs_other {nm : Nat → ByteArray} {n : Nat} {s : ByteArray} (h : ∀ i, i < n → ¬ nm i = s) : ∀ k, k ≤ n → idxs nm k s = []
  | 0, _ => rfl
  | k + 1, hk => by
    rw [idxs_succ, if_neg (h k (by omega)), idxs_other h k (by omega)]

/-- A least index, where there is one. -/
theorem least_of {p : Nat → Prop} {n : Nat} (h : ∃ i, i < n ∧ p i) : ∃ i, i < n ∧ p i ∧ ∀ j, j < i → ¬ p j := by
  obtain ⟨i, hi, hp⟩ := h
  induction i using Nat.strongRecOn with
  | _ i ih =>
    by_cases hj : ∃ j, j < i ∧ p j
    · obtain ⟨j, hj1, hj2⟩ := hj
      exact ih j hj1 (by omega) hj2
    · exact ⟨i, hi, hp, fun j hj1 hj2 => hj ⟨j, hj1, hj2⟩⟩

end Go.Proofs.Qxb6000628a
