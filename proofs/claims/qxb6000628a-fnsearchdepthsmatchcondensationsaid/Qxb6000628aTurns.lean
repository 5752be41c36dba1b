/-
  The search's turns, plainly: each keeps the invariant and lessens a measure. No Go text here.
-/
import Derived.Test.Qxb6000628aSettle
set_option linter.unusedVariables false
namespace Go.Proofs.Qxb6000628a

theorem exists_least : ∃ least : (Nat → Prop) → Nat, ∀ p : Nat → Prop, (∃ n, p n) → p (least p) ∧ ∀ k, p k → least p ≤ k := by
  have h : ∀ p : Nat → Prop, ∃ m, (∃ n, p n) → p m ∧ ∀ k, p k → m ≤ k := by
    intro p
    by_cases hp : ∃ n, p n
    · obtain ⟨n, hn⟩ := hp
      obtain ⟨i, _, hi, hl⟩ := least_of (p := p) (n := n + 1) ⟨n, by omega, hn⟩
      exact ⟨i, fun _ => ⟨hi, fun k hk => Nat.le_of_not_lt (fun h => hl k h hk)⟩⟩
    · exact ⟨0, fun h => absurd h hp⟩
  exact ⟨fun p => Classical.choose (h p), fun p hp => Classical.choose_spec (h p) hp⟩

section
variable {V : Type}

def weigh (adj : V → List V) (s : Ts V) (v : V) : Nat := match s.idx v with | none => (adj v).length + 2 | some _ => 0

def mu (adj : V → List V) (U : List V) (s : Ts V) (path : List V) : Nat := (U.map (weigh adj s)).sum + (path.map (fun p => (adj p).length - s.pr p + 1)).sum

theorem sum_le (f g : V → Nat) : ∀ (l : List V), (∀ v ∈ l, f v ≤ g v) → (l.map f).sum ≤ (l.map g).sum
  | [], _ => by simp
  | a :: l, h => by
    have h1 := h a List.mem_cons_self
    have h2 := sum_le f g l (fun v hv => h v (List.mem_cons_of_mem _ hv))
    simp only [List.map_cons, List.sum_cons]
    omega

theorem sum_drop (f g : V → Nat) {r : V} {k : Nat} (hr : f r + k ≤ g r) : ∀ (l : List V), (∀ v ∈ l, f v ≤ g v) → r ∈ l → (l.map f).sum + k ≤ (l.map g).sum
  | [], _, h => by simp at h
  | a :: l, h, hm => by
    have h1 := h a List.mem_cons_self
    have hl : ∀ v ∈ l, f v ≤ g v := fun v hv => h v (List.mem_cons_of_mem _ hv)
    simp only [List.map_cons, List.sum_cons]
    rcases List.mem_cons.1 hm with rfl | hm
    · have h2 := sum_le f g l hl
      omega
    · have h2 := sum_drop f g hr l hl hm
      omega

theorem sum_same (f g : V → Nat) : ∀ (l : List V), (∀ v ∈ l, f v = g v) → (l.map f).sum = (l.map g).sum := by
  intro l h
  rw [List.map_congr_left h]

section
variable [DecidableEq V]
variable {adj : V → List V} {T : V → Prop} {s : Ts V} {p r : V} {rest : List V} {U : List V}

omit [DecidableEq V] in
theorem Inv.top_notin (h : Inv adj T s (p :: rest)) : ∀ q ∈ rest, q ≠ p := by
  intro q hq e
  have := (List.pairwise_cons.1 h.psr).1 q hq
  rw [e] at this
  omega

theorem mu_next (h : Inv adj T s (p :: rest)) (hr : (adj p)[s.pr p]? = some r) : mu adj U (s.next p) (p :: rest) < mu adj U s (p :: rest) := by
  have hlt : s.pr p < (adj p).length := (List.getElem?_eq_some_iff.1 hr).1
  have h1 : (U.map (weigh adj (s.next p))) = U.map (weigh adj s) := rfl
  have h2 : (rest.map (fun p' => (adj p').length - (s.next p).pr p' + 1)).sum = (rest.map (fun p' => (adj p').length - s.pr p' + 1)).sum :=
    sum_same _ _ _ (fun q hq => by have : (s.next p).pr q = s.pr q := upd_other _ _ (h.top_notin q hq); rw [this])
  have h3 : (s.next p).pr p = s.pr p + 1 := upd_same _ _ _
  unfold mu
  rw [h1]
  simp only [List.map_cons, List.sum_cons]
  rw [h2, h3]
  omega

theorem turn_skip (h : Inv adj T s (p :: rest)) (hr : (adj p)[s.pr p]? = some r) (hd : s.dep r ≠ none) : Inv adj T (s.next p) (p :: rest) ∧ mu adj U (s.next p) (p :: rest) < mu adj U s (p :: rest) :=
  ⟨h.next List.mem_cons_self hr (h.cov r hd) (fun hm => absurd ((h.stk r).1 hm).2 hd), mu_next h hr⟩

theorem turn_low (h : Inv adj T s (p :: rest)) (hr : (adj p)[s.pr p]? = some r) (hi : s.idx r ≠ none) (hd : s.dep r = none) :
    Inv adj T ((s.lower p (s.ix r)).next p) (p :: rest) ∧ mu adj U ((s.lower p (s.ix r)).next p) (p :: rest) < mu adj U s (p :: rest) := by
  have hm : r ∈ s.stack := (h.stk r).2 ⟨hi, hd⟩
  have h1 := h.lower List.mem_cons_self hm (Reach.edge (List.mem_of_getElem? hr))
  have hr1 : (adj p)[(s.lower p (s.ix r)).pr p]? = some r := hr
  refine ⟨h1.next List.mem_cons_self hr1 hi (fun _ => ?_), ?_⟩
  · have : (s.lower p (s.ix r)).low p = min (s.low p) (s.ix r) := upd_same _ _ _
    rw [this]
    exact Nat.min_le_right _ _
  · exact mu_next (U := U) h1 hr1

theorem turn_new (h : Inv adj T s (p :: rest)) (hT : ∀ u, T u → ∀ v ∈ adj u, T v) (hU : ∀ v, T v → v ∈ U) (hr : (adj p)[s.pr p]? = some r) (hi : s.idx r = none) :
    Inv adj T ((s.reach r).next p) (r :: p :: rest) ∧ mu adj U ((s.reach r).next p) (r :: p :: rest) < mu adj U s (p :: rest) := by
  have hpst : p ∈ s.stack := h.pst p List.mem_cons_self
  have hpi := ((h.stk p).1 hpst).1
  have hpr : p ≠ r := fun e => hpi (e ▸ hi)
  have hmem : r ∈ adj p := List.mem_of_getElem? hr
  have hTr : T r := hT p (h.tt p hpi) r hmem
  have hre : ∀ q ∈ p :: rest, Reach adj q r := by
    intro q hq
    refine (h.rch q hq p hpst ?_).trans (Reach.edge hmem)
    rcases List.mem_cons.1 hq with rfl | hq
    · exact Nat.le_refl _
    · exact Nat.le_of_lt ((List.pairwise_cons.1 h.psr).1 q hq)
  have h1 := h.reach hi hTr hre
  have hr1 : (adj p)[(s.reach r).pr p]? = some r := hr
  have hlt : s.pr p < (adj p).length := (List.getElem?_eq_some_iff.1 hr).1
  have hixr : (s.reach r).idx r = some s.n := upd_same _ _ _
  refine ⟨h1.next (List.mem_cons_of_mem _ List.mem_cons_self) hr1 (by rw [hixr]; simp) (fun _ => ?_), ?_⟩
  · have e1 : (s.reach r).low p = s.low p := upd_other _ _ hpr
    have e2 : (s.reach r).ix r = s.n := by simp [Ts.ix, hixr]
    rw [e1, e2]
    have := (h.l1 p List.mem_cons_self).1
    have := (h.ixlt hpst).2
    omega
  · have w1 : (U.map (weigh adj ((s.reach r).next p))).sum + ((adj r).length + 2) ≤ (U.map (weigh adj s)).sum := by
      refine sum_drop _ _ (r := r) ?_ U (fun v _ => ?_) (hU r hTr)
      · have : ((s.reach r).next p).idx r = some s.n := hixr
        simp [weigh, this, hi]
      · by_cases e : v = r
        · subst e
          have : ((s.reach v).next p).idx v = some s.n := hixr
          simp [weigh, this]
        · have : ((s.reach r).next p).idx v = s.idx v := upd_other _ _ e
          simp [weigh, this]
    have w2 : (rest.map (fun p' => (adj p').length - ((s.reach r).next p).pr p' + 1)).sum = (rest.map (fun p' => (adj p').length - s.pr p' + 1)).sum :=
      sum_same _ _ _ (fun q hq => by have : ((s.reach r).next p).pr q = s.pr q := upd_other _ _ (h.top_notin q hq); rw [this])
    have w3 : ((s.reach r).next p).pr p = s.pr p + 1 := upd_same _ _ _
    have w4 : ((s.reach r).next p).pr r = s.pr r := upd_other _ _ (fun e => hpr e.symm)
    have w5 := h.pr0 r hi
    unfold mu
    simp only [List.map_cons, List.sum_cons]
    rw [w2, w3, w4, w5]
    omega

omit [DecidableEq V] in
theorem low_path (h : Inv adj T s (p :: rest)) (hl : s.low p ≠ s.ix p) : ∃ q rest', rest = q :: rest' := by
  obtain ⟨h1, y, hy, h2, _⟩ := h.l1 p List.mem_cons_self
  obtain ⟨t, ht, h3, _⟩ := h.bck y hy
  rcases List.mem_cons.1 ht with rfl | ht
  · omega
  · cases rest with
    | nil => simp at ht
    | cons q rest' => exact ⟨q, rest', rfl⟩

theorem turn_pop {q : V} {rest' : List V} (h : Inv adj T s (p :: q :: rest')) (hd : (adj p).length ≤ s.pr p) (hl : s.low p ≠ s.ix p) :
    Inv adj T (s.lower q (s.low p)) (q :: rest') ∧ mu adj U (s.lower q (s.low p)) (q :: rest') < mu adj U s (p :: q :: rest') := by
  obtain ⟨h1, y, hy, h2, h3⟩ := h.l1 p List.mem_cons_self
  have hqm : q ∈ p :: q :: rest' := List.mem_cons_of_mem _ List.mem_cons_self
  have hqp : s.ix q < s.ix p := (List.pairwise_cons.1 h.psr).1 q List.mem_cons_self
  have hre : Reach adj q y := (h.rch q hqm p (h.pst p List.mem_cons_self) (Nat.le_of_lt hqp)).trans h3
  have h4 := h.lower hqm hy hre
  rw [h2] at h4
  have hne : p ≠ q := fun e => by rw [e] at hqp; omega
  have e1 : (s.lower q (s.low p)).low p = s.low p := upd_other _ _ hne
  have e2 : (s.lower q (s.low p)).low q = min (s.low q) (s.low p) := upd_same _ _ _
  refine ⟨h4.pop hd (by rw [e1]; show s.low p < s.ix p; omega) (by rw [e1, e2]; exact Nat.min_le_right _ _), ?_⟩
  unfold mu
  have : U.map (weigh adj (s.lower q (s.low p))) = U.map (weigh adj s) := rfl
  rw [this]
  simp only [List.map_cons, List.sum_cons]
  have : (s.lower q (s.low p)).pr = s.pr := rfl
  rw [this]
  omega

theorem turn_settle {k : Nat} (h : Inv adj T s (p :: rest)) (hd : (adj p).length ≤ s.pr p) (hl : s.low p = s.ix p) (hk : s.stack[k]? = some p) :
    Inv adj T (s.settle k (best adj s.dep 0 (s.stack.drop k))) rest ∧ mu adj U (s.settle k (best adj s.dep 0 (s.stack.drop k))) rest < mu adj U s (p :: rest) := by
  refine ⟨h.settled hd hl hk, ?_⟩
  unfold mu
  have : U.map (weigh adj (s.settle k (best adj s.dep 0 (s.stack.drop k)))) = U.map (weigh adj s) := rfl
  rw [this]
  simp only [List.map_cons, List.sum_cons]
  have : (s.settle k (best adj s.dep 0 (s.stack.drop k))).pr = s.pr := rfl
  rw [this]
  omega

omit [DecidableEq V] in
/-- The parent's low does not turn at a settled cycle. -/
theorem settle_low {q : V} {rest' : List V} (h : Inv adj T s (p :: q :: rest')) (hl : s.low p = s.ix p) : min (s.low q) (s.low p) = s.low q := by
  have h1 := (h.l1 q (List.mem_cons_of_mem _ List.mem_cons_self)).1
  have h2 : s.ix q < s.ix p := (List.pairwise_cons.1 h.psr).1 q List.mem_cons_self
  omega

omit [DecidableEq V] in
/-- The stack has no name twice. -/
theorem Inv.unique {path : List V} (h : Inv adj T s path) {i j : Nat} {v : V} (hi : s.stack[i]? = some v) (hj : s.stack[j]? = some v) : i = j := by
  have hp := List.pairwise_iff_getElem.1 h.srt
  obtain ⟨li, ei⟩ := List.getElem?_eq_some_iff.1 hi
  obtain ⟨lj, ej⟩ := List.getElem?_eq_some_iff.1 hj
  rcases Nat.lt_trichotomy i j with hlt | heq | hgt
  · have := hp i j li lj hlt
    rw [ei, ej] at this
    omega
  · exact heq
  · have := hp j i lj li hgt
    rw [ei, ej] at this
    omega

omit [DecidableEq V] in
theorem inc_length (f : V → Nat) : ∀ (l : List V) (m n : Nat), l.Pairwise (fun a b => f a < f b) → (∀ v ∈ l, m ≤ f v ∧ f v < n) → l.length ≤ n - m
  | [], m, n, _, _ => by simp
  | a :: l, m, n, h, hb => by
    have h1 := List.pairwise_cons.1 h
    have h2 := hb a List.mem_cons_self
    have h3 := inc_length f l (f a + 1) n h1.2 (fun v hv => ⟨h1.1 v hv, (hb v (List.mem_cons_of_mem _ hv)).2⟩)
    simp only [List.length_cons]
    omega

omit [DecidableEq V] in
theorem Inv.stack_len {path : List V} (h : Inv adj T s path) : s.stack.length ≤ s.n := by
  have := inc_length s.ix s.stack 0 s.n h.srt (fun v hv => ⟨Nat.zero_le _, (h.ixlt hv).2⟩)
  omega

omit [DecidableEq V] in
theorem Inv.path_len {path : List V} (h : Inv adj T s path) : path.length ≤ s.n := by
  have hp : path.reverse.Pairwise (fun a b => s.ix a < s.ix b) := List.pairwise_reverse.2 h.psr
  have := inc_length s.ix path.reverse 0 s.n hp (fun v hv => ⟨Nat.zero_le _, (h.ixlt (h.pst v (List.mem_reverse.1 hv))).2⟩)
  simp at this
  omega

/-- Every number below n is some name's. -/
def Sur (s : Ts V) : Prop := ∀ j, j < s.n → ∃ v, s.idx v = some j

omit [DecidableEq V] in
theorem Inv.n_le {path : List V} (h : Inv adj T s path) (hs : Sur s) (hU : ∀ v, T v → v ∈ U) : s.n ≤ U.length := by
  have := pigeon s.n (U.map s.ix) (fun j hj => by
    obtain ⟨v, hv⟩ := hs j hj
    exact List.mem_map.2 ⟨v, hU v (h.tt v (by rw [hv]; simp)), by simp [Ts.ix, hv]⟩)
  simpa using this

theorem Sur.reach (h : Sur s) (hi : s.idx r = none) : Sur (s.reach r) := by
  intro j hj
  have hj : j < s.n + 1 := hj
  by_cases e : j = s.n
  · exact ⟨r, by rw [e]; exact upd_same _ _ _⟩
  · obtain ⟨v, hv⟩ := h j (by omega)
    refine ⟨v, ?_⟩
    have : (s.reach r).idx v = s.idx v := upd_other _ _ (fun e => by rw [e, hi] at hv; cases hv)
    rw [this]
    exact hv

end
end
end Go.Proofs.Qxb6000628a
