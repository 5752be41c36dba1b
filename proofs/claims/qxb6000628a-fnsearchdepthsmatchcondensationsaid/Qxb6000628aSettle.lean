/-
  The search for cycles, plainly: a cycle is settled; depths in the end. No Go text here.
-/
import Derived.Test.Qxb6000628aTarjan
set_option linter.unusedVariables false
namespace Go.Proofs.Qxb6000628a

section
variable {V : Type} [DecidableEq V]

/-- Depths, with one more for the names of a list. -/
def setDep (dep : V → Option Nat) (l : List V) (d : Nat) : V → Option Nat := fun v => if v ∈ l then some d else dep v

theorem setDep_in (dep : V → Option Nat) {l : List V} (d : Nat) {v : V} (h : v ∈ l) : setDep dep l d v = some d := by simp [setDep, h]
theorem setDep_out (dep : V → Option Nat) {l : List V} (d : Nat) {v : V} (h : v ∉ l) : setDep dep l d v = dep v := by simp [setDep, h]

theorem setDep_snoc (dep : V → Option Nat) (l : List V) (d : Nat) (a v : V) : setDep dep (l ++ [a]) d v = if a = v then some d else setDep dep l d v := by
  by_cases h : a = v
  · subst h; simp [setDep]
  · have h' : ¬ v = a := fun e => h e.symm
    simp [setDep, h, h']

def Ts.settle (s : Ts V) (k : Nat) (d : Nat) : Ts V := { s with dep := setDep s.dep (s.stack.drop k) d, stack := s.stack.take k }

omit [DecidableEq V] in
/-- The stack at a name's place: below it the smaller numbers, from it on the others. -/
theorem stack_cut {f : V → Nat} {l : List V} {k : Nat} {p : V} (hs : l.Pairwise (fun a b => f a < f b)) (hk : l[k]? = some p) :
    (∀ x, x ∈ l.drop k ↔ (x ∈ l ∧ f p ≤ f x)) ∧ (∀ x, x ∈ l.take k ↔ (x ∈ l ∧ f x < f p)) := by
  have hlt : k < l.length := (List.getElem?_eq_some_iff.1 hk).1
  have hdrop : l.drop k = p :: l.drop (k + 1) := by
    rw [List.drop_eq_getElem_cons hlt]
    have := (List.getElem?_eq_some_iff.1 hk).2
    rw [this]
  have hl : l = l.take k ++ l.drop k := (List.take_append_drop k l).symm
  rw [hl, List.pairwise_append] at hs
  obtain ⟨h1, h2, h3⟩ := hs
  rw [hdrop, List.pairwise_cons] at h2
  have hd : ∀ x ∈ l.drop k, f p ≤ f x := by
    intro x hx
    rw [hdrop] at hx
    rcases List.mem_cons.1 hx with rfl | hx
    · exact Nat.le_refl _
    · exact Nat.le_of_lt (h2.1 x hx)
  have ht : ∀ x ∈ l.take k, f x < f p := fun x hx => h3 x hx p (by rw [hdrop]; exact List.mem_cons_self)
  have hm : ∀ x, x ∈ l → x ∈ l.take k ∨ x ∈ l.drop k := by
    intro x hx
    rw [hl] at hx
    exact List.mem_append.1 hx
  refine ⟨fun x => ⟨fun hx => ⟨List.mem_of_mem_drop hx, hd x hx⟩, fun ⟨hx, hle⟩ => ?_⟩, fun x => ⟨fun hx => ⟨List.mem_of_mem_take hx, ht x hx⟩, fun ⟨hx, hle⟩ => ?_⟩⟩
  · rcases hm x hx with h | h
    · have := ht x h; omega
    · exact h
  · rcases hm x hx with h | h
    · exact h
    · have := hd x h; omega

theorem Inv.settle {adj : V → List V} {T : V → Prop} {s : Ts V} {p : V} {path : List V} {k d : Nat} (h : Inv adj T s (p :: path)) (hd : (adj p).length ≤ s.pr p) (hlow : s.low p = s.ix p) (hk : s.stack[k]? = some p)
    (hb1 : ∀ x ∈ s.stack.drop k, ∀ y ∈ adj x, ∀ e, s.dep y = some e → e + 1 ≤ d) (hb2 : d = 0 ∨ ∃ x ∈ s.stack.drop k, ∃ y ∈ adj x, ∃ e, s.dep y = some e ∧ d = e + 1) : Inv adj T (s.settle k d) path := by
  obtain ⟨hS, hB⟩ := stack_cut h.srt hk
  have hpp := List.pairwise_cons.1 h.psr
  have hsub : ∀ x ∈ path, x ∈ p :: path := fun x hx => List.mem_cons_of_mem _ hx
  have hpS : p ∈ s.stack.drop k := (hS p).2 ⟨h.pst p List.mem_cons_self, Nat.le_refl _⟩
  have hpl : ∀ q ∈ path, q ∈ s.stack ∧ s.ix q < s.ix p := fun q hq => ⟨h.pst q (hsub q hq), hpp.1 q hq⟩
  have dn : ∀ x ∈ s.stack.drop k, s.dep x = none := fun x hx => ((h.stk x).1 ((hS x).1 hx).1).2
  have hcl : ∀ x ∈ s.stack.drop k, ∀ y ∈ adj x, y ∈ s.stack.drop k ∨ s.dep y ≠ none := by
    intro x hx y hy
    obtain ⟨hxs, hxp⟩ := (hS x).1 hx
    have hfin : (adj x).length ≤ s.pr x := by
      by_cases e : x = p
      · rw [e]; exact hd
      · refine h.fin x hxs (fun hm => ?_)
        rcases List.mem_cons.1 hm with e' | hm
        · exact e e'
        · have := (hpl x hm).2; omega
    have hy' : y ∈ (adj x).take (s.pr x) := by rw [List.take_of_length_le hfin]; exact hy
    by_cases hdy : s.dep y = none
    · have hys : y ∈ s.stack := (h.stk y).2 ⟨h.prc x hxs y hy', hdy⟩
      have := h.l2 x hxs y hy' hys p List.mem_cons_self hxp (fun q hq _ => by
        rcases List.mem_cons.1 hq with rfl | hq
        · exact Nat.le_refl _
        · exact Nat.le_of_lt (hpl q hq).2)
      exact .inl ((hS y).2 ⟨hys, by omega⟩)
    · exact .inr hdy
  have hCl : ∀ u, (u ∈ s.stack.drop k ∨ s.dep u ≠ none) → ∀ v ∈ adj u, (v ∈ s.stack.drop k ∨ s.dep v ≠ none) := by
    rintro u (hu | hu) v hv
    · exact hcl u hu v hv
    · exact .inr (h.d1 u hu v hv)
  have fromP : ∀ x ∈ s.stack.drop k, Reach adj p x := fun x hx => h.rch p List.mem_cons_self x ((hS x).1 hx).1 ((hS x).1 hx).2
  have toP : ∀ x ∈ s.stack.drop k, Reach adj x p := by
    intro x hx
    obtain ⟨q, hq, h1, h2⟩ := h.bck x ((hS x).1 hx).1
    rcases List.mem_cons.1 hq with rfl | hq
    · exact h2
    · rcases h2.closed hCl (.inl hx) with h3 | h3
      · have := ((hS q).1 h3).2
        have := (hpl q hq).2
        omega
      · exact absurd ((h.stk q).1 (hpl q hq).1).2 h3
  have noR : ∀ y x, s.dep y ≠ none → x ∈ s.stack.drop k → ¬ Reach adj y x := fun y x hy hx hr => (hr.closed (T := fun v => s.dep v ≠ none) h.d1 hy) (dn x hx)
  have dS : ∀ v, v ∈ s.stack.drop k → (s.settle k d).dep v = some d := fun v hv => by simp [Ts.settle, setDep, hv]
  have dO : ∀ v, v ∉ s.stack.drop k → (s.settle k d).dep v = s.dep v := fun v hv => by simp [Ts.settle, setDep, hv]
  have dK : ∀ v, s.dep v ≠ none → (s.settle k d).dep v = s.dep v := fun v hv => dO v (fun hm => hv (dn v hm))
  have tk : ∀ x, x ∈ (s.settle k d).stack → x ∈ s.stack ∧ s.ix x < s.ix p := fun x hx => (hB x).1 hx
  refine ⟨h.inj, h.lt, ?_, ?_, ?_, ?_, hpp.2, ?_, ?_, ?_, ?_, ?_, ?_, h.pr0, ?_, ?_, ?_, h.tt⟩
  · intro u hu
    by_cases e : u ∈ s.stack.drop k
    · exact ((h.stk u).1 ((hS u).1 e).1).1
    · rw [dO u e] at hu; exact h.cov u hu
  · intro v
    constructor
    · intro hv
      obtain ⟨h1, h2⟩ := tk v hv
      have h3 := (h.stk v).1 h1
      refine ⟨h3.1, ?_⟩
      rw [dO v (fun hm => by have := ((hS v).1 hm).2; omega)]
      exact h3.2
    · rintro ⟨h1, h2⟩
      have hv : v ∉ s.stack.drop k := fun hm => by rw [dS v hm] at h2; cases h2
      rw [dO v hv] at h2
      have h3 := (h.stk v).2 ⟨h1, h2⟩
      refine (hB v).2 ⟨h3, ?_⟩
      rcases Nat.lt_or_ge (s.ix v) (s.ix p) with h4 | h4
      · exact h4
      · exact absurd ((hS v).2 ⟨h3, h4⟩) hv
  · exact h.srt.sublist (List.take_sublist _ _)
  · intro q hq
    exact (hB q).2 (hpl q hq)
  · intro q hq x hx
    exact h.rch q (hsub q hq) x (tk x hx).1
  · intro x hx
    obtain ⟨h1, h2⟩ := tk x hx
    obtain ⟨q, hq, h3, h4⟩ := h.bck x h1
    rcases List.mem_cons.1 hq with rfl | hq
    · omega
    · exact ⟨q, hq, h3, h4⟩
  · intro x hx
    exact h.prc x (tk x hx).1
  · intro q hq
    obtain ⟨h1, y, hy, h2, h3⟩ := h.l1 q (hsub q hq)
    have := (hpl q hq).2
    exact ⟨h1, y, (hB y).2 ⟨hy, by omega⟩, h2, h3⟩
  · intro x hx y hy hys t ht hle hmax
    obtain ⟨h1, h2⟩ := tk x hx
    refine h.l2 x h1 y hy (tk y hys).1 t (hsub t ht) hle (fun z hz hzx => ?_)
    rcases List.mem_cons.1 hz with rfl | hz
    · omega
    · exact hmax z hz hzx
  · intro x hx hxp
    obtain ⟨h1, h2⟩ := tk x hx
    refine h.fin x h1 (fun hm => ?_)
    rcases List.mem_cons.1 hm with rfl | hm
    · omega
    · exact hxp hm
  · intro x hx y hy
    have hy' : y ∈ s.stack.drop k ∨ s.dep y ≠ none := by
      by_cases e : x ∈ s.stack.drop k
      · exact hcl x e y hy
      · rw [dO x e] at hx; exact .inr (h.d1 x hx y hy)
    rcases hy' with hy' | hy'
    · rw [dS y hy']; simp
    · rw [dK y hy']; exact hy'
  · intro x d0 hx y hy e he
    by_cases ex : x ∈ s.stack.drop k
    · rw [dS x ex] at hx
      obtain rfl : d = d0 := by simpa using hx
      rcases hcl x ex y hy with ey | ey
      · rw [dS y ey] at he
        have : d = e := by simpa using he
        exact ⟨fun _ => this.symm, fun hn => absurd ((toP y ey).trans (fromP x ex)) hn⟩
      · rw [dK y ey] at he
        exact ⟨fun hr => absurd hr (noR y x ey ex), fun _ => hb1 x ex y hy e he⟩
    · rw [dO x ex] at hx
      have ey := h.d1 x (by simp [hx]) y hy
      rw [dK y ey] at he
      exact h.d2 x d0 hx y hy e he
  · intro x d0 hx
    by_cases ex : x ∈ s.stack.drop k
    · rw [dS x ex] at hx
      have hdd : d = d0 + 1 := by simpa using hx
      rcases hb2 with h0 | ⟨x', hx', y, hy, e, he, hde⟩
      · omega
      · obtain rfl : e = d0 := by omega
        exact ⟨x', by rw [dS x' hx', hdd], (toP x ex).trans (fromP x' hx'), (toP x' hx').trans (fromP x ex), y, hy, by rw [dK y (by simp [he])]; exact he⟩
    · rw [dO x ex] at hx
      obtain ⟨x', h1, h2, h3, y, hy, h4⟩ := h.d3 x d0 hx
      exact ⟨x', by rw [dK x' (by simp [h1])]; exact h1, h2, h3, y, hy, by rw [dK y (by simp [h4])]; exact h4⟩

/-! The depth that a cycle gets. -/
def bump (dep : V → Option Nat) (d : Nat) (r : V) : Nat := match dep r with | some e => max d (e + 1) | none => d
def bumps (dep : V → Option Nat) (d : Nat) (l : List V) : Nat := l.foldl (bump dep) d
def best (adj : V → List V) (dep : V → Option Nat) (d : Nat) (l : List V) : Nat := l.foldl (fun d v => bumps dep d (adj v)) d

omit [DecidableEq V] in
theorem bumps_spec (dep : V → Option Nat) : ∀ (l : List V) (d : Nat), d ≤ bumps dep d l ∧ (∀ y ∈ l, ∀ e, dep y = some e → e + 1 ≤ bumps dep d l) ∧ (bumps dep d l = d ∨ ∃ y ∈ l, ∃ e, dep y = some e ∧ bumps dep d l = e + 1)
  | [], d => by simp [bumps]
  | a :: l, d => by
    have hs : bumps dep d (a :: l) = bumps dep (bump dep d a) l := rfl
    obtain ⟨h1, h2, h3⟩ := bumps_spec dep l (bump dep d a)
    rw [hs]
    have hb : d ≤ bump dep d a := by unfold bump; split <;> omega
    refine ⟨by omega, ?_, ?_⟩
    · intro y hy e he
      rcases List.mem_cons.1 hy with rfl | hy
      · have : e + 1 ≤ bump dep d y := by simp [bump, he]; omega
        omega
      · exact h2 y hy e he
    · rcases h3 with h3 | ⟨y, hy, e, he, h4⟩
      · rw [h3]
        cases ha : dep a with
        | none => left; simp [bump, ha]
        | some e =>
          by_cases hm : d ≤ e + 1
          · right; exact ⟨a, List.mem_cons_self, e, ha, by simp [bump, ha]; omega⟩
          · left; simp [bump, ha]; omega
      · right; exact ⟨y, List.mem_cons_of_mem _ hy, e, he, h4⟩

omit [DecidableEq V] in
theorem best_spec (adj : V → List V) (dep : V → Option Nat) : ∀ (l : List V) (d : Nat), d ≤ best adj dep d l ∧ (∀ x ∈ l, ∀ y ∈ adj x, ∀ e, dep y = some e → e + 1 ≤ best adj dep d l) ∧ (best adj dep d l = d ∨ ∃ x ∈ l, ∃ y ∈ adj x, ∃ e, dep y = some e ∧ best adj dep d l = e + 1)
  | [], d => by simp [best]
  | a :: l, d => by
    have hs : best adj dep d (a :: l) = best adj dep (bumps dep d (adj a)) l := rfl
    obtain ⟨h1, h2, h3⟩ := best_spec adj dep l (bumps dep d (adj a))
    obtain ⟨g1, g2, g3⟩ := bumps_spec dep (adj a) d
    rw [hs]
    refine ⟨by omega, ?_, ?_⟩
    · intro x hx y hy e he
      rcases List.mem_cons.1 hx with rfl | hx
      · have := g2 y hy e he; omega
      · exact h2 x hx y hy e he
    · rcases h3 with h3 | ⟨x, hx, h4⟩
      · rw [h3]
        rcases g3 with g3 | ⟨y, hy, e, he, g4⟩
        · exact .inl g3
        · exact .inr ⟨a, List.mem_cons_self, y, hy, e, he, g4⟩
      · exact .inr ⟨x, List.mem_cons_of_mem _ hx, h4⟩

theorem Inv.settled {adj : V → List V} {T : V → Prop} {s : Ts V} {p : V} {path : List V} {k : Nat} (h : Inv adj T s (p :: path)) (hd : (adj p).length ≤ s.pr p) (hlow : s.low p = s.ix p) (hk : s.stack[k]? = some p) : Inv adj T (s.settle k (best adj s.dep 0 (s.stack.drop k))) path :=
  h.settle hd hlow hk (best_spec adj s.dep _ 0).2.1 (best_spec adj s.dep _ 0).2.2

/-! Depths in the end. -/
omit [DecidableEq V] in
theorem Inv.attained {adj : V → List V} {T : V → Prop} {s : Ts V} {path : List V} (h : Inv adj T s path) : ∀ (d : Nat) (x : V), s.dep x = some d → ∀ j, j ≤ d → ∃ y, s.dep y = some j
  | 0, x, hx, j, hj => ⟨x, by rw [hx]; congr 1; omega⟩
  | d + 1, x, hx, j, hj => by
    by_cases e : j = d + 1
    · exact ⟨x, by rw [e]; exact hx⟩
    · obtain ⟨_, _, _, _, y, _, hy⟩ := h.d3 x d hx
      exact Inv.attained h d y hy j (by omega)

theorem pigeon : ∀ (m : Nat) (l : List Nat), (∀ j, j < m → j ∈ l) → m ≤ l.length
  | 0, _, _ => Nat.zero_le _
  | m + 1, l, h => by
    have h1 := pigeon m (l.erase m) (fun j hj => (List.mem_erase_of_ne (by omega)).2 (h j (by omega)))
    have h2 := List.length_erase_of_mem (h m (by omega))
    have h3 := List.length_pos_of_mem (h m (by omega))
    omega

omit [DecidableEq V] in
/-- A depth is less than the number of names. -/
theorem Inv.bound {adj : V → List V} {T : V → Prop} {s : Ts V} {path : List V} (h : Inv adj T s path) (U : List V) (hU : ∀ v, s.dep v ≠ none → v ∈ U) {x : V} {d : Nat} (hx : s.dep x = some d) : d < U.length := by
  have := pigeon (d + 1) (U.map (fun v => (s.dep v).getD 0)) (fun j hj => by
    obtain ⟨y, hy⟩ := h.attained d x hx j (by omega)
    exact List.mem_map.2 ⟨y, hU y (by simp [hy]), by simp [hy]⟩)
  simp at this
  omega

end
end Go.Proofs.Qxb6000628a
