/-
  The search for cycles, plainly: its state, what holds of it at every turn, and that each turn keeps it. No Go text here.
-/
import Derived.Test.Qxb6000628aBld
set_option linter.unusedVariables false
namespace Go.Proofs.Qxb6000628a

section
variable {V : Type}

def ReachN (adj : V → List V) : Nat → V → V → Prop
  | 0, u, v => u = v
  | n + 1, u, v => ∃ x, x ∈ adj u ∧ ReachN adj n x v

def Reach (adj : V → List V) (u v : V) : Prop := ∃ n, ReachN adj n u v

theorem Reach.refl (adj : V → List V) (u : V) : Reach adj u u := ⟨0, rfl⟩

theorem ReachN.trans {adj : V → List V} : ∀ {n m : Nat} {u v x : V}, ReachN adj n u v → ReachN adj m v x → ReachN adj (n + m) u x
  | 0, m, u, v, x, h1, h2 => by
    have h : u = v := h1
    subst h
    rw [Nat.zero_add]; exact h2
  | n + 1, m, u, v, x, h1, h2 => by
    obtain ⟨y, hy, h3⟩ := h1
    rw [Nat.succ_add]
    exact ⟨y, hy, ReachN.trans h3 h2⟩

theorem Reach.trans {adj : V → List V} {u v x : V} (h1 : Reach adj u v) (h2 : Reach adj v x) : Reach adj u x := by
  obtain ⟨n, h1⟩ := h1
  obtain ⟨m, h2⟩ := h2
  exact ⟨n + m, h1.trans h2⟩

theorem Reach.edge {adj : V → List V} {u v : V} (h : v ∈ adj u) : Reach adj u v := ⟨1, v, h, rfl⟩

theorem Reach.closed {adj : V → List V} {T : V → Prop} (hT : ∀ u, T u → ∀ v ∈ adj u, T v) {u v : V} (h : Reach adj u v) (hu : T u) : T v := by
  obtain ⟨n, h⟩ := h
  induction n generalizing u with
  | zero => have h : u = v := h; exact h ▸ hu
  | succ n ih =>
    obtain ⟨y, hy, h⟩ := h
    exact ih (hT u hu y hy) h

/-- The search's state: numbers, lows, depths, how many roles of a name are followed, the stack, how many names are reached. -/
structure Ts (V : Type) where
  idx : V → Option Nat
  low : V → Nat
  dep : V → Option Nat
  pr : V → Nat
  stack : List V
  n : Nat

def Ts.ix (s : Ts V) (v : V) : Nat := (s.idx v).getD 0

/-- What holds of the search at every turn; 'path' from the top down. -/
structure Inv (adj : V → List V) (T : V → Prop) (s : Ts V) (path : List V) : Prop where
  inj : ∀ u v i, s.idx u = some i → s.idx v = some i → u = v
  lt : ∀ u i, s.idx u = some i → i < s.n
  cov : ∀ u, s.dep u ≠ none → s.idx u ≠ none
  stk : ∀ v, v ∈ s.stack ↔ (s.idx v ≠ none ∧ s.dep v = none)
  srt : s.stack.Pairwise (fun a b => s.ix a < s.ix b)
  pst : ∀ p ∈ path, p ∈ s.stack
  psr : path.Pairwise (fun a b => s.ix b < s.ix a)
  rch : ∀ p ∈ path, ∀ x ∈ s.stack, s.ix p ≤ s.ix x → Reach adj p x
  bck : ∀ x ∈ s.stack, ∃ p ∈ path, s.ix p ≤ s.ix x ∧ Reach adj x p
  prc : ∀ x ∈ s.stack, ∀ y ∈ (adj x).take (s.pr x), s.idx y ≠ none
  l1 : ∀ p ∈ path, s.low p ≤ s.ix p ∧ ∃ y ∈ s.stack, s.ix y = s.low p ∧ Reach adj p y
  l2 : ∀ x ∈ s.stack, ∀ y ∈ (adj x).take (s.pr x), y ∈ s.stack → ∀ p ∈ path, s.ix p ≤ s.ix x → (∀ q ∈ path, s.ix q ≤ s.ix x → s.ix q ≤ s.ix p) → s.low p ≤ s.ix y
  fin : ∀ x ∈ s.stack, x ∉ path → (adj x).length ≤ s.pr x
  pr0 : ∀ v, s.idx v = none → s.pr v = 0
  d1 : ∀ x, s.dep x ≠ none → ∀ y ∈ adj x, s.dep y ≠ none
  d2 : ∀ x d, s.dep x = some d → ∀ y ∈ adj x, ∀ e, s.dep y = some e → (Reach adj y x → e = d) ∧ (¬ Reach adj y x → e < d)
  d3 : ∀ x d, s.dep x = some (d + 1) → ∃ x', s.dep x' = some (d + 1) ∧ Reach adj x x' ∧ Reach adj x' x ∧ ∃ y ∈ adj x', s.dep y = some d
  tt : ∀ v, s.idx v ≠ none → T v

theorem Inv.ixlt {adj : V → List V} {T : V → Prop} {s : Ts V} {path : List V} (h : Inv adj T s path) {x : V} (hx : x ∈ s.stack) : s.idx x = some (s.ix x) ∧ s.ix x < s.n := by
  have h1 := ((h.stk x).1 hx).1
  obtain ⟨i, hi⟩ := Option.ne_none_iff_exists'.1 h1
  have : s.ix x = i := by simp [Ts.ix, hi]
  exact ⟨by rw [this]; exact hi, by rw [this]; exact h.lt x i hi⟩

theorem Inv.ixinj {adj : V → List V} {T : V → Prop} {s : Ts V} {path : List V} (h : Inv adj T s path) {x y : V} (hx : x ∈ s.stack) (hy : y ∈ s.stack) (e : s.ix x = s.ix y) : x = y :=
  h.inj x y (s.ix x) (h.ixlt hx).1 (by rw [e]; exact (h.ixlt hy).1)

/-- With no path the stack is empty. -/
theorem Inv.empty {adj : V → List V} {T : V → Prop} {s : Ts V} (h : Inv adj T s []) : s.stack = [] := by
  cases e : s.stack with
  | nil => rfl
  | cons a l =>
    obtain ⟨p, hp, _⟩ := h.bck a (by rw [e]; simp)
    simp at hp

theorem Inv.start0 (adj : V → List V) (T : V → Prop) : Inv adj T ⟨fun _ => none, fun _ => 0, fun _ => none, fun _ => 0, [], 0⟩ [] where
  inj := by simp
  lt := by simp
  cov := by simp
  stk := by simp
  srt := by simp
  pst := by simp
  psr := by simp
  rch := by simp
  bck := by simp
  prc := by simp
  l1 := by simp
  l2 := by simp
  fin := by simp
  pr0 := by simp
  d1 := by simp
  d2 := by simp
  d3 := by simp
  tt := by simp

/-- The names to which the set may grow can be taken wider. -/
theorem Inv.wider {adj : V → List V} {T T' : V → Prop} {s : Ts V} {path : List V} (h : Inv adj T s path) (hT : ∀ v, T v → T' v) : Inv adj T' s path :=
  { h with tt := fun v hv => hT v (h.tt v hv) }

section
variable [DecidableEq V]

def upd {α : Type} (f : V → α) (a : V) (b : α) : V → α := fun v => if v = a then b else f v

theorem upd_same {α : Type} (f : V → α) (a : V) (b : α) : upd f a b a = b := by simp [upd]
theorem upd_other {α : Type} (f : V → α) {a v : V} (b : α) (h : v ≠ a) : upd f a b v = f v := by simp [upd, h]

def Ts.reach (s : Ts V) (r : V) : Ts V := { s with idx := upd s.idx r (some s.n), low := upd s.low r s.n, stack := s.stack ++ [r], n := s.n + 1 }

theorem Inv.reach {adj : V → List V} {T : V → Prop} {s : Ts V} {path : List V} (h : Inv adj T s path) {r : V} (hr : s.idx r = none) (hT : T r) (hp : ∀ p ∈ path, Reach adj p r) : Inv adj T (s.reach r) (r :: path) := by
  have hne : ∀ v, s.idx v ≠ none → v ≠ r := fun v hv e => hv (e ▸ hr)
  have hns : ∀ v ∈ s.stack, v ≠ r := fun v hv => hne v ((h.stk v).1 hv).1
  have hix : ∀ v, v ≠ r → (s.reach r).ix v = s.ix v := fun v hv => by simp [Ts.ix, Ts.reach, upd_other _ _ hv]
  have hixr : (s.reach r).ix r = s.n := by simp [Ts.ix, Ts.reach, upd_same]
  have hst : ∀ v, v ∈ (s.reach r).stack ↔ v ∈ s.stack ∨ v = r := fun v => by simp [Ts.reach]
  have hdr : s.dep r = none := by
    cases e : s.dep r with
    | none => rfl
    | some d => exact absurd hr (h.cov r (by simp [e]))
  have hidx : ∀ v, v ≠ r → (s.reach r).idx v = s.idx v := fun v hv => upd_other _ _ hv
  have hidxr : (s.reach r).idx r = some s.n := upd_same _ _ _
  have hlow : ∀ v, v ≠ r → (s.reach r).low v = s.low v := fun v hv => upd_other _ _ hv
  have hlowr : (s.reach r).low r = s.n := upd_same _ _ _
  have hpn : ∀ p ∈ path, p ≠ r := fun p hp => hns p (h.pst p hp)
  have hpr : (s.reach r).pr r = 0 := h.pr0 r hr
  have hlt : ∀ v ∈ s.stack, s.ix v < s.n := fun v hv => (h.ixlt hv).2
  refine ⟨?_, ?_, ?_, ?_, ?_, ?_, ?_, ?_, ?_, ?_, ?_, ?_, ?_, ?_, h.d1, h.d2, h.d3, ?_⟩
  · intro u v i hu hv
    by_cases eu : u = r <;> by_cases ev : v = r
    · rw [eu, ev]
    · subst eu
      rw [hidxr] at hu
      rw [hidx v ev] at hv
      have := h.lt v i hv
      simp at hu
      omega
    · subst ev
      rw [hidxr] at hv
      rw [hidx u eu] at hu
      have := h.lt u i hu
      simp at hv
      omega
    · rw [hidx u eu] at hu
      rw [hidx v ev] at hv
      exact h.inj u v i hu hv
  · intro u i hu
    show i < s.n + 1
    by_cases eu : u = r
    · subst eu; rw [hidxr] at hu; simp at hu; omega
    · rw [hidx u eu] at hu; have := h.lt u i hu; omega
  · intro u hu
    by_cases eu : u = r
    · subst eu; rw [hidxr]; simp
    · rw [hidx u eu]; exact h.cov u hu
  · intro v
    rw [hst]
    by_cases ev : v = r
    · subst ev; simp [hidxr]; exact hdr
    · rw [hidx v ev]
      simp only [ev, or_false]
      exact h.stk v
  · show (s.stack ++ [r]).Pairwise _
    rw [List.pairwise_append]
    refine ⟨h.srt.imp_of_mem (fun {a b} ha hb hab => by rw [hix a (hns a ha), hix b (hns b hb)]; exact hab), by simp, fun a ha b hb => ?_⟩
    simp at hb
    subst hb
    rw [hixr, hix a (hns a ha)]
    exact hlt a ha
  · intro p hp'
    rw [hst]
    rcases List.mem_cons.1 hp' with e | hp'
    · exact .inr e
    · exact .inl (h.pst p hp')
  · refine List.pairwise_cons.2 ⟨fun b hb => ?_, h.psr.imp_of_mem (fun {a b} ha hb hab => by rw [hix a (hpn a ha), hix b (hpn b hb)]; exact hab)⟩
    rw [hixr, hix b (hpn b hb)]
    exact hlt b (h.pst b hb)
  · intro p hp' x hx hle
    rcases (hst x).1 hx with hxs | rfl
    · rcases List.mem_cons.1 hp' with rfl | hp'
      · rw [hixr, hix x (hns x hxs)] at hle
        have := hlt x hxs
        omega
      · rw [hix p (hpn p hp'), hix x (hns x hxs)] at hle
        exact h.rch p hp' x hxs hle
    · rcases List.mem_cons.1 hp' with rfl | hp'
      · exact Reach.refl _ _
      · exact hp p hp'
  · intro x hx
    rcases (hst x).1 hx with hx | rfl
    · obtain ⟨p, hp', h1, h2⟩ := h.bck x hx
      exact ⟨p, List.mem_cons_of_mem _ hp', by rw [hix p (hpn p hp'), hix x (hns x hx)]; exact h1, h2⟩
    · exact ⟨x, List.mem_cons_self, Nat.le_refl _, Reach.refl _ _⟩
  · intro x hx y hy
    rcases (hst x).1 hx with hx | rfl
    · have := h.prc x hx y hy
      rw [hidx y (hne y this)]
      exact this
    · rw [hpr] at hy; simp at hy
  · intro p hp'
    rcases List.mem_cons.1 hp' with rfl | hp'
    · rw [hlowr, hixr]
      exact ⟨Nat.le_refl _, p, (hst p).2 (.inr rfl), hixr, Reach.refl _ _⟩
    · obtain ⟨h1, y, hy, h2, h3⟩ := h.l1 p hp'
      rw [hlow p (hpn p hp'), hix p (hpn p hp')]
      exact ⟨h1, y, (hst y).2 (.inl hy), by rw [hix y (hns y hy)]; exact h2, h3⟩
  · intro x hx y hy hys p hp' hle hmax
    rcases (hst x).1 hx with hxs | rfl
    · have hyi := h.prc x hxs y hy
      have hyr := hne y hyi
      have hys : y ∈ s.stack := by
        rcases (hst y).1 hys with h | h
        · exact h
        · exact absurd h hyr
      rcases List.mem_cons.1 hp' with rfl | hp'
      · rw [hixr, hix x (hns x hxs)] at hle
        have := hlt x hxs
        omega
      · rw [hlow p (hpn p hp'), hix y hyr]
        rw [hix p (hpn p hp'), hix x (hns x hxs)] at hle
        refine h.l2 x hxs y hy hys p hp' hle (fun q hq hqx => ?_)
        have := hmax q (List.mem_cons_of_mem _ hq)
        rw [hix q (hpn q hq), hix x (hns x hxs), hix p (hpn p hp')] at this
        exact this hqx
    · rw [hpr] at hy; simp at hy
  · intro x hx hxp
    rcases (hst x).1 hx with hx | rfl
    · exact h.fin x hx (fun e => hxp (List.mem_cons_of_mem _ e))
    · exact absurd List.mem_cons_self hxp
  · intro v hv
    by_cases ev : v = r
    · subst ev; exact hpr
    · rw [hidx v ev] at hv; exact h.pr0 v hv
  · intro v hv
    by_cases ev : v = r
    · subst ev; exact hT
    · rw [hidx v ev] at hv; exact h.tt v hv

def Ts.next (s : Ts V) (p : V) : Ts V := { s with pr := upd s.pr p (s.pr p + 1) }

omit [DecidableEq V] in
theorem mem_take_succ {l : List V} {k : Nat} {r y : V} (hr : l[k]? = some r) (hy : y ∈ l.take (k + 1)) : y ∈ l.take k ∨ y = r := by
  rw [List.take_add_one, hr] at hy
  simpa using hy

theorem Inv.next {adj : V → List V} {T : V → Prop} {s : Ts V} {path : List V} (h : Inv adj T s path) {p r : V} (hp : p ∈ path) (hr : (adj p)[s.pr p]? = some r) (hi : s.idx r ≠ none) (hl : r ∈ s.stack → s.low p ≤ s.ix r) : Inv adj T (s.next p) path := by
  have hpr : ∀ x y, y ∈ (adj x).take ((s.next p).pr x) → y ∈ (adj x).take (s.pr x) ∨ (x = p ∧ y = r) := by
    intro x y hy
    by_cases e : x = p
    · subst e
      have : (s.next x).pr x = s.pr x + 1 := upd_same _ _ _
      rw [this] at hy
      rcases mem_take_succ hr hy with h | h
      · exact .inl h
      · exact .inr ⟨rfl, h⟩
    · have : (s.next p).pr x = s.pr x := upd_other _ _ e
      rw [this] at hy
      exact .inl hy
  refine { h with prc := ?_, l2 := ?_, fin := ?_, pr0 := ?_ }
  · intro x hx y hy
    rcases hpr x y hy with h1 | ⟨_, rfl⟩
    · exact h.prc x hx y h1
    · exact hi
  · intro x hx y hy hys q hq hle hmax
    rcases hpr x y hy with h1 | ⟨rfl, rfl⟩
    · exact h.l2 x hx y h1 hys q hq hle hmax
    · have h2 : s.ix x ≤ s.ix q := hmax x hp (Nat.le_refl _)
      have h3 : s.ix q ≤ s.ix x := hle
      have : q = x := h.ixinj (h.pst q hq) hx (by omega)
      subst this
      exact hl hys
  · intro x hx hxp
    have : (s.next p).pr x = s.pr x := upd_other _ _ (fun e => hxp (e ▸ hp))
    rw [this]
    exact h.fin x hx hxp
  · intro v hv
    have hvp : v ≠ p := by
      rintro rfl
      exact ((h.stk v).1 (h.pst v hp)).1 hv
    have : (s.next p).pr v = s.pr v := upd_other _ _ hvp
    rw [this]
    exact h.pr0 v hv

def Ts.lower (s : Ts V) (p : V) (m : Nat) : Ts V := { s with low := upd s.low p (min (s.low p) m) }

theorem Inv.lower {adj : V → List V} {T : V → Prop} {s : Ts V} {path : List V} (h : Inv adj T s path) {p r : V} (hp : p ∈ path) (hr : r ∈ s.stack) (hre : Reach adj p r) : Inv adj T (s.lower p (s.ix r)) path := by
  have hle : ∀ v, (s.lower p (s.ix r)).low v ≤ s.low v := by
    intro v
    by_cases e : v = p
    · subst e
      have : (s.lower v (s.ix r)).low v = min (s.low v) (s.ix r) := upd_same _ _ _
      omega
    · have : (s.lower p (s.ix r)).low v = s.low v := upd_other _ _ e
      omega
  refine { h with l1 := ?_, l2 := ?_ }
  · intro q hq
    obtain ⟨h1, y, hy, h2, h3⟩ := h.l1 q hq
    refine ⟨Nat.le_trans (hle q) h1, ?_⟩
    by_cases e : q = p
    · subst e
      have : (s.lower q (s.ix r)).low q = min (s.low q) (s.ix r) := upd_same _ _ _
      rw [this]
      by_cases hm : s.low q ≤ s.ix r
      · exact ⟨y, hy, by rw [Nat.min_eq_left hm]; exact h2, h3⟩
      · exact ⟨r, hr, by rw [Nat.min_eq_right (by omega)]; rfl, hre⟩
    · have : (s.lower p (s.ix r)).low q = s.low q := upd_other _ _ e
      rw [this]
      exact ⟨y, hy, h2, h3⟩
  · intro x hx y hy hys q hq h1 h2
    exact Nat.le_trans (hle q) (h.l2 x hx y hy hys q hq h1 h2)

/-- A name that leads lower leaves the path and stays on the stack. -/
theorem Inv.pop {adj : V → List V} {T : V → Prop} {s : Ts V} {p q : V} {path : List V} (h : Inv adj T s (p :: q :: path)) (hd : (adj p).length ≤ s.pr p) (hlow : s.low p < s.ix p) (hq : s.low q ≤ s.low p) : Inv adj T s (q :: path) := by
  have hpq := List.pairwise_cons.1 h.psr
  have hqp := List.pairwise_cons.1 hpq.2
  have hsub : ∀ x ∈ q :: path, x ∈ p :: q :: path := fun x hx => List.mem_cons_of_mem _ hx
  refine { h with pst := fun x hx => h.pst x (hsub x hx), psr := hpq.2, rch := fun x hx => h.rch x (hsub x hx), bck := ?_, l1 := fun x hx => h.l1 x (hsub x hx), l2 := ?_, fin := ?_ }
  · intro x hx
    obtain ⟨z, hz, h1, h2⟩ := h.bck x hx
    rcases List.mem_cons.1 hz with rfl | hz
    · obtain ⟨_, y, hy, h3, h4⟩ := h.l1 z List.mem_cons_self
      obtain ⟨t, ht, h5, h6⟩ := h.bck y hy
      rcases List.mem_cons.1 ht with rfl | ht
      · omega
      · exact ⟨t, ht, by omega, h2.trans (h4.trans h6)⟩
    · exact ⟨z, hz, h1, h2⟩
  · intro x hx y hy hys t ht hle hmax
    by_cases e : s.ix p ≤ s.ix x
    · -- x belonged to p; now to q
      have h1 := h.l2 x hx y hy hys p List.mem_cons_self e (fun z hz hzx => by
        rcases List.mem_cons.1 hz with rfl | hz
        · exact Nat.le_refl _
        · exact Nat.le_of_lt (hpq.1 z hz))
      have h2 : s.ix q ≤ s.ix t := hmax q List.mem_cons_self (by have := hpq.1 q List.mem_cons_self; omega)
      have h3 : t = q := by
        rcases List.mem_cons.1 ht with rfl | ht
        · rfl
        · have := hqp.1 t ht; omega
      subst h3
      omega
    · exact h.l2 x hx y hy hys t (hsub t ht) hle (fun z hz hzx => by
        rcases List.mem_cons.1 hz with rfl | hz
        · omega
        · exact hmax z hz hzx)
  · intro x hx hxp
    by_cases e : x = p
    · subst e; exact hd
    · exact h.fin x hx (fun hm => by
        rcases List.mem_cons.1 hm with e' | hm
        · exact e e'
        · exact hxp hm)

end
end
end Go.Proofs.Qxb6000628a
