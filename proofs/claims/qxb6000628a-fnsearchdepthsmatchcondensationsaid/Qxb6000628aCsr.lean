/-
  Rows of links by their source, plainly; the search in breadth, plainly. No Go text here.
-/
import Derived.Test.Qxb6000628aTurns
set_option linter.unusedVariables false
namespace Go.Proofs.Qxb6000628a

/-- How many of the first i links come from u. -/
def cnt (ef : Nat → Nat) (u : Nat) : Nat → Nat
  | 0 => 0
  | i + 1 => cnt ef u i + if ef i = u then 1 else 0

/-- How many of the first i links come from below u. -/
def les (ef : Nat → Nat) (u : Nat) : Nat → Nat
  | 0 => 0
  | i + 1 => les ef u i + if ef i < u then 1 else 0

theorem cnt_le (ef : Nat → Nat) (u : Nat) : ∀ i, cnt ef u i ≤ i
  | 0 => Nat.le_refl _
  | i + 1 => by have := cnt_le ef u i; simp only [cnt]; split <;> omega

theorem les_le (ef : Nat → Nat) (u : Nat) : ∀ i, les ef u i ≤ i
  | 0 => Nat.le_refl _
  | i + 1 => by have := les_le ef u i; simp only [les]; split <;> omega

theorem les_zero (ef : Nat → Nat) : ∀ i, les ef 0 i = 0
  | 0 => rfl
  | i + 1 => by simp [les, les_zero ef i]

theorem les_succ (ef : Nat → Nat) (u : Nat) : ∀ i, les ef (u + 1) i = les ef u i + cnt ef u i
  | 0 => rfl
  | i + 1 => by
    have := les_succ ef u i
    simp only [les, cnt]
    by_cases h1 : ef i = u
    · have h2 : ef i < u + 1 := by omega
      have h3 : ¬ ef i < u := by omega
      simp [h1]; omega
    · by_cases h2 : ef i < u
      · have h3 : ef i < u + 1 := by omega
        simp [h1, h2, h3]; omega
      · have h3 : ¬ ef i < u + 1 := by omega
        simp [h1, h2, h3]; omega

theorem les_mono (ef : Nat → Nat) (i : Nat) {u v : Nat} (h : u ≤ v) : les ef u i ≤ les ef v i := by
  induction v with
  | zero => have : u = 0 := by omega
            subst this; exact Nat.le_refl _
  | succ v ih =>
    by_cases e : u = v + 1
    · rw [e]; exact Nat.le_refl _
    · have := ih (by omega)
      rw [les_succ]; omega

theorem cnt_mono (ef : Nat → Nat) (u : Nat) {i j : Nat} (h : i ≤ j) : cnt ef u i ≤ cnt ef u j := by
  induction j with
  | zero => have : i = 0 := by omega
            subst this; exact Nat.le_refl _
  | succ j ih =>
    by_cases e : i = j + 1
    · rw [e]; exact Nat.le_refl _
    · have := ih (by omega)
      simp only [cnt]; omega

theorem cnt_lt (ef : Nat → Nat) {i j : Nat} (h : i < j) : cnt ef (ef i) i < cnt ef (ef i) j := by
  have h1 : cnt ef (ef i) (i + 1) = cnt ef (ef i) i + 1 := by simp [cnt]
  have := cnt_mono ef (ef i) (show i + 1 ≤ j from h)
  omega

/-- Each rank below the count is some link's. -/
theorem cnt_find (ef : Nat → Nat) (u : Nat) : ∀ k p, p < cnt ef u k → ∃ j, j < k ∧ ef j = u ∧ cnt ef u j = p
  | 0, p, h => by simp [cnt] at h
  | k + 1, p, h => by
    by_cases hp : p < cnt ef u k
    · obtain ⟨j, h1, h2, h3⟩ := cnt_find ef u k p hp
      exact ⟨j, by omega, h2, h3⟩
    · simp only [cnt] at h
      by_cases e : ef k = u
      · simp [e] at h
        exact ⟨k, by omega, e, by omega⟩
      · simp [e] at h
        omega

/-- Where link j goes. -/
def pos (ef : Nat → Nat) (k j : Nat) : Nat := les ef (ef j) k + cnt ef (ef j) j

theorem pos_hi {ef : Nat → Nat} {k j : Nat} (hj : j < k) : pos ef k j < les ef (ef j + 1) k := by
  have := cnt_lt ef hj
  rw [les_succ]
  unfold pos
  omega

theorem pos_lt {ef : Nat → Nat} {k j : Nat} (hj : j < k) : pos ef k j < k := Nat.lt_of_lt_of_le (pos_hi hj) (les_le ef _ k)

theorem pos_ne {ef : Nat → Nat} {k i j : Nat} (hi : i < k) (hj : j < i) : pos ef k j ≠ pos ef k i := by
  have h1 := pos_hi (ef := ef) hi
  have h2 := pos_hi (ef := ef) (show j < k by omega)
  rcases Nat.lt_trichotomy (ef j) (ef i) with h | h | h
  · have := les_mono ef k (show ef j + 1 ≤ ef i from h)
    unfold pos at *
    omega
  · have := cnt_lt ef hj
    unfold pos
    rw [h] at this ⊢
    omega
  · have := les_mono ef k (show ef i + 1 ≤ ef j from h)
    unfold pos at *
    omega

/-- The links laid by source. -/
structure Csr (ef et : Nat → Nat) (k : Nat) (a : Nat → Nat) : Prop where
  at_ : ∀ j, j < k → a (pos ef k j) = et j

theorem Csr.find {ef et : Nat → Nat} {k : Nat} {a : Nat → Nat} (h : Csr ef et k a) {u x : Nat} (h1 : les ef u k ≤ x) (h2 : x < les ef (u + 1) k) : ∃ j, j < k ∧ ef j = u ∧ a x = et j := by
  rw [les_succ] at h2
  obtain ⟨j, hj, hu, hc⟩ := cnt_find ef u k (x - les ef u k) (by omega)
  refine ⟨j, hj, hu, ?_⟩
  rw [← h.at_ j hj]
  congr 1
  unfold pos
  rw [hu, hc]
  omega

/-- The links among numbers. -/
def nb (ef et : Nat → Nat) (k u : Nat) : List Nat := ((List.range k).filter (fun i => decide (ef i = u))).map et

theorem mem_nb {ef et : Nat → Nat} {k u v : Nat} : v ∈ nb ef et k u ↔ ∃ j, j < k ∧ ef j = u ∧ et j = v := by
  unfold nb
  simp [List.mem_map, List.mem_filter, and_assoc]

theorem nodup_len : ∀ (n : Nat) (q : List Nat), q.Nodup → (∀ x ∈ q, x < n) → q.length ≤ n
  | 0, q, _, h => by
    cases q with
    | nil => simp
    | cons a l => have := h a (by simp); omega
  | n + 1, q, hn, h => by
    have h1 := nodup_len n (q.erase n) (hn.erase n) (fun x hx => by
      have h2 := List.mem_of_mem_erase hx
      have h3 := h x h2
      have h4 : x ≠ n := fun e => by
        subst e
        exact (hn.not_mem_erase) hx
      omega)
    have h2 : q.length ≤ (q.erase n).length + 1 := by
      rw [List.length_erase]
      split <;> omega
    omega

/-- The search in breadth from s, with the queue q, of which h are done. -/
structure Bf (ef et : Nat → Nat) (k s : Nat) (q : List Nat) (h : Nat) : Prop where
  nd : q.Nodup
  lt : ∀ x ∈ q, x < 256
  src : s ∈ q
  rch : ∀ x ∈ q, Reach (nb ef et k) s x
  dn : ∀ i u, i < h → q[i]? = some u → ∀ v ∈ nb ef et k u, v ∈ q

theorem Bf.start (ef et : Nat → Nat) (k : Nat) {s : Nat} (hs : s < 256) : Bf ef et k s [s] 0 :=
  ⟨by simp, by simpa using hs, by simp, fun x hx => by have : x = s := by simpa using hx
                                                       subst this; exact Reach.refl _ _, fun i u hi => absurd hi (Nat.not_lt_zero _)⟩

theorem Bf.len {ef et : Nat → Nat} {k s : Nat} {q : List Nat} {h : Nat} (B : Bf ef et k s q h) : q.length ≤ 256 := nodup_len 256 q B.nd B.lt

theorem Bf.push {ef et : Nat → Nat} {k s : Nat} {q : List Nat} {h u v : Nat} (B : Bf ef et k s q h) (hh : h < q.length) (hu : u ∈ q) (hv : v ∈ nb ef et k u) (hl : v < 256) (hn : v ∉ q) : Bf ef et k s (q ++ [v]) h := by
  refine ⟨?_, ?_, by simp [B.src], ?_, ?_⟩
  · rw [List.nodup_append]
    refine ⟨B.nd, by simp, fun a ha b hb => ?_⟩
    simp at hb
    subst hb
    exact fun e => hn (e ▸ ha)
  · intro x hx
    rcases List.mem_append.1 hx with hx | hx
    · exact B.lt x hx
    · simp at hx; subst hx; exact hl
  · intro x hx
    rcases List.mem_append.1 hx with hx | hx
    · exact B.rch x hx
    · simp at hx; subst hx; exact (B.rch u hu).trans (Reach.edge hv)
  · intro i w hi hw y hy
    rw [List.getElem?_append_left (by omega)] at hw
    exact List.mem_append.2 (.inl (B.dn i w hi hw y hy))

theorem Bf.next {ef et : Nat → Nat} {k s : Nat} {q : List Nat} {h u : Nat} (B : Bf ef et k s q h) (hu : q[h]? = some u) (hd : ∀ v ∈ nb ef et k u, v ∈ q) : Bf ef et k s q (h + 1) := by
  refine ⟨B.nd, B.lt, B.src, B.rch, fun i w hi hw v hv => ?_⟩
  by_cases e : i = h
  · subst e
    rw [hu] at hw
    cases hw
    exact hd v hv
  · exact B.dn i w (by omega) hw v hv

theorem Bf.done {ef et : Nat → Nat} {k s : Nat} {q : List Nat} (B : Bf ef et k s q q.length) (v : Nat) : v ∈ q ↔ Reach (nb ef et k) s v := by
  refine ⟨B.rch v, fun h => h.closed (T := fun v => v ∈ q) (fun u hu w hw => ?_) B.src⟩
  obtain ⟨i, hi⟩ := List.mem_iff_getElem?.1 hu
  exact B.dn i u (List.getElem?_eq_some_iff.1 hi).1 hi w hw

end Go.Proofs.Qxb6000628a
