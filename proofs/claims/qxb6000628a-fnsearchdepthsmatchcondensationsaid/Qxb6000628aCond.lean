/-
  The longest chains in the graph of cycles, plainly. No Go text here.
-/
import Derived.Test.Qxb6000628aLw
set_option linter.unusedVariables false
namespace Go.Proofs.Qxb6000628a

def Mut (ef et : Nat → Nat) (k u v : Nat) : Prop := Reach (nb ef et k) u v ∧ Reach (nb ef et k) v u

theorem Mut.refl (ef et : Nat → Nat) (k u : Nat) : Mut ef et k u u := ⟨Reach.refl _ _, Reach.refl _ _⟩
theorem Mut.symm {ef et : Nat → Nat} {k u v : Nat} (h : Mut ef et k u v) : Mut ef et k v u := ⟨h.2, h.1⟩
theorem Mut.trans {ef et : Nat → Nat} {k u v w : Nat} (h : Mut ef et k u v) (g : Mut ef et k v w) : Mut ef et k u w := ⟨h.1.trans g.1, g.2.trans h.2⟩

/-- r is the first number that shares a cycle with u. -/
structure IsRep (ef et : Nat → Nat) (k u r : Nat) : Prop where
  le : r ≤ u
  mt : Mut ef et k u r
  lst : ∀ w, w < r → ¬ Mut ef et k u w

theorem IsRep.eq_iff {ef et : Nat → Nat} {k u v r r' : Nat} (h : IsRep ef et k u r) (h' : IsRep ef et k v r') : r = r' ↔ Mut ef et k u v := by
  constructor
  · rintro rfl
    exact h.mt.trans h'.mt.symm
  · intro hm
    rcases Nat.lt_trichotomy r r' with hl | he | hg
    · exact absurd (hm.symm.trans h.mt) (h'.lst r hl)
    · exact he
    · exact absurd (hm.trans h'.mt) (h.lst r' hg)

def Rp (ef et : Nat → Nat) (k : Nat) (rep : Nat → Nat) : Prop := ∀ u, u < 256 → IsRep ef et k u (rep u)

/-- The best over the first k links. -/
def bst (ef et rep D : Nat → Nat) (c : Nat) : Nat → Nat
  | 0 => 0
  | k + 1 => if rep (ef k) ≠ rep (et k) ∧ rep (ef k) = c then max (bst ef et rep D c k) (D (et k) + 1) else bst ef et rep D c k

theorem bst_le {ef et rep D : Nat → Nat} {c r : Nat} (hD : ∀ x, D x ≤ r) : ∀ k, bst ef et rep D c k ≤ r + 1
  | 0 => Nat.zero_le _
  | k + 1 => by
    have h1 := bst_le (ef := ef) (et := et) (rep := rep) (c := c) hD k
    have h2 := hD (et k)
    simp only [bst]
    split
    · exact Nat.max_le.2 ⟨h1, by omega⟩
    · exact h1

theorem bst_ge {ef et rep D : Nat → Nat} {c : Nat} : ∀ {k j : Nat}, j < k → rep (ef j) ≠ rep (et j) → rep (ef j) = c → D (et j) + 1 ≤ bst ef et rep D c k
  | 0, j, h, _, _ => absurd h (Nat.not_lt_zero _)
  | k + 1, j, h, h1, h2 => by
    simp only [bst]
    by_cases e : j = k
    · subst e
      rw [if_pos ⟨h1, h2⟩]
      exact Nat.le_max_right _ _
    · have := bst_ge (D := D) (show j < k by omega) h1 h2
      split
      · exact Nat.le_trans this (Nat.le_max_left _ _)
      · exact this

theorem bst_or {ef et rep D : Nat → Nat} {c : Nat} : ∀ k, bst ef et rep D c k = 0 ∨ ∃ j, j < k ∧ rep (ef j) ≠ rep (et j) ∧ rep (ef j) = c ∧ bst ef et rep D c k = D (et j) + 1
  | 0 => .inl rfl
  | k + 1 => by
    have ih := bst_or (ef := ef) (et := et) (rep := rep) (D := D) (c := c) k
    simp only [bst]
    split
    · next h =>
      rcases Nat.le_total (bst ef et rep D c k) (D (et k) + 1) with hl | hl
      · right
        exact ⟨k, by omega, h.1, h.2, by rw [Nat.max_eq_right hl]⟩
      · rw [Nat.max_eq_left hl]
        rcases ih with ih | ⟨j, h1, h2, h3, h4⟩
        · exact .inl ih
        · exact .inr ⟨j, by omega, h2, h3, h4⟩
    · rcases ih with ih | ⟨j, h1, h2, h3, h4⟩
      · exact .inl ih
      · exact .inr ⟨j, by omega, h2, h3, h4⟩

/-- The depths after r rounds. -/
def rnd (ef et rep : Nat → Nat) (k : Nat) : Nat → Nat → Nat
  | 0, _ => 0
  | r + 1, u => bst ef et rep (rnd ef et rep k r) (rep u) k

theorem rnd_le (ef et rep : Nat → Nat) (k : Nat) : ∀ r u, rnd ef et rep k r u ≤ r
  | 0, _ => Nat.le_refl _
  | r + 1, u => bst_le (fun x => rnd_le ef et rep k r x) k

/-- Names of one cycle share one depth. -/
theorem Pl.same {ef et : Nat → Nat} {k : Nat} {fq : Nat → Nat} {m : Nat} {s : Ts ByteArray} (h : Pl ef et k fq m s) : ∀ (n : Nat) {x y : ByteArray} {d : Nat}, ReachN (adjE ef et k) n x y → Reach (adjE ef et k) y x → s.dep x = some d → s.dep y = some d
  | 0, x, y, d, h1, _, hd => by
    have e : x = y := h1
    exact e ▸ hd
  | n + 1, x, y, d, h1, h2, hd => by
    obtain ⟨z, hz, h3⟩ := h1
    obtain ⟨e, he⟩ := Option.ne_none_iff_exists'.1 (h.inv.d1 x (by rw [hd]; simp) z hz)
    have hzx : Reach (adjE ef et k) z x := Reach.trans ⟨n, h3⟩ h2
    have := (h.inv.d2 x d hd z hz e he).1 hzx
    subst this
    exact h.same n h3 (h2.trans (Reach.edge hz)) he

theorem Pl.mut_dep {ef et : Nat → Nat} {k : Nat} {fq : Nat → Nat} {m : Nat} {s : Ts ByteArray} (h : Pl ef et k fq m s) {u v d : Nat} (hu : u < 256) (hv : v < 256) (hm : Mut ef et k u v) (hd : s.dep (nme u) = some d) : s.dep (nme v) = some d := by
  obtain ⟨n, hn⟩ := (reach_names h.f h.t hu hv).2 hm.1
  exact h.same n hn ((reach_names h.f h.t hv hu).2 hm.2) hd

theorem Pl.rnd_eq {ef et : Nat → Nat} {k : Nat} {fq : Nat → Nat} {m : Nat} {s : Ts ByteArray} (h : Pl ef et k fq m s) {rep : Nat → Nat} (hr : Rp ef et k rep) : ∀ (r u d : Nat), u < 256 → s.dep (nme u) = some d → rnd ef et rep k r u = min r d
  | 0, u, d, hu, hd => by simp [rnd]
  | r + 1, u, d, hu, hd => by
    have key : ∀ j, j < k → rep (ef j) ≠ rep (et j) → rep (ef j) = rep u → ∃ e, s.dep (nme (et j)) = some e ∧ e < d := by
      intro j hj h1 h2
      have hm : Mut ef et k u (ef j) := ((hr (ef j) (h.f j)).eq_iff (hr u hu)).1 h2 |>.symm
      have hd' := h.mut_dep hu (h.f j) hm hd
      obtain ⟨e, he, _, h4⟩ := h.role hj hd'
      refine ⟨e, he, h4 (fun hb => h1 ?_)⟩
      exact ((hr (ef j) (h.f j)).eq_iff (hr (et j) (h.t j))).2 ⟨Reach.edge (mem_nb.2 ⟨j, hj, rfl, rfl⟩), hb⟩
    show bst ef et rep (rnd ef et rep k r) (rep u) k = min (r + 1) d
    have hup : bst ef et rep (rnd ef et rep k r) (rep u) k ≤ min (r + 1) d := by
      rcases bst_or (ef := ef) (et := et) (rep := rep) (D := rnd ef et rep k r) (c := rep u) k with h0 | ⟨j, h1, h2, h3, h4⟩
      · rw [h0]; exact Nat.zero_le _
      · obtain ⟨e, he, hed⟩ := key j h1 h2 h3
        rw [h4, h.rnd_eq hr r (et j) e (h.t j) he]
        omega
    cases d with
    | zero => omega
    | succ d =>
      obtain ⟨x, hx, hr1, hr2, y, hy, hyd⟩ := h.inv.d3 (nme u) d hd
      obtain ⟨j, hj, rfl, rfl⟩ := mem_adjE.1 hy
      have hm : Mut ef et k u (ef j) := ⟨(reach_names h.f h.t hu (h.f j)).1 hr1, (reach_names h.f h.t (h.f j) hu).1 hr2⟩
      have h2 : rep (ef j) = rep u := ((hr (ef j) (h.f j)).eq_iff (hr u hu)).2 hm.symm
      have h1 : rep (ef j) ≠ rep (et j) := fun e => by
        have hm2 := ((hr (ef j) (h.f j)).eq_iff (hr (et j) (h.t j))).1 e
        have := h.mut_dep (h.f j) (h.t j) hm2 hx
        rw [hyd] at this
        injection this with this
        omega
      have hlo := bst_ge (D := rnd ef et rep k r) hj h1 h2
      rw [h.rnd_eq hr r (et j) d (h.t j) hyd] at hlo
      omega

/-- Where the rounds end the depths are told. -/
theorem Pl.rnd_end {ef et : Nat → Nat} {k : Nat} {fq : Nat → Nat} {m : Nat} {s : Ts ByteArray} (h : Pl ef et k fq m s) {rep : Nat → Nat} (hr : Rp ef et k rep) {r : Nat} (he : r = 300 ∨ ∀ u, u < 256 → rnd ef et rep k (r + 1) u = rnd ef et rep k r u) {u d : Nat} (hu : u < 256) (hd : s.dep (nme u) = some d) : rnd ef et rep k r u = d := by
  have h1 := h.rnd_eq hr r u d hu hd
  have h2 := h.le255 hd
  rcases he with rfl | he
  · rw [h1]; omega
  · have h3 := h.rnd_eq hr (r + 1) u d hu hd
    rw [he u hu, h1] at h3
    rw [h1]; omega

/-- A name has a depth exactly where a query reaches it. -/
theorem Pl.settled_iff {ef et : Nat → Nat} {k : Nat} {fq : Nat → Nat} {m : Nat} {s : Ts ByteArray} (h : Pl ef et k fq m s) {u : Nat} (hu : u < 256) : s.dep (nme u) ≠ none ↔ ∃ q, q < m ∧ Reach (nb ef et k) (fq q) u := by
  constructor
  · intro hd
    obtain ⟨q, hq, hr⟩ := h.inv.tt _ (h.inv.cov _ hd)
    exact ⟨q, hq, (reach_names h.f h.t (h.q q) hu).1 hr⟩
  · rintro ⟨q, hq, hr⟩
    exact ((reach_names h.f h.t (h.q q) hu).2 hr).closed (T := fun v => s.dep v ≠ none) (fun u hu v hv => h.inv.d1 u hu v hv) (h.idx_dep (h.must q hq))

end Go.Proofs.Qxb6000628a
