/-
  What both laws keep in memory; names and numbers.
-/
import Derived.Test.Qxb6000628aAll
import Derived.Test.Qxb6000628aRch
set_option linter.unusedVariables false
namespace Go.Proofs.Qxb6000628a
open Go.RowKit

theorem reach_names {ef et : Nat → Nat} {k : Nat} (hf : ∀ i, ef i < 256) (he : ∀ i, et i < 256) {s t : Nat} (hs : s < 256) (ht : t < 256) : Reach (adjE ef et k) (nme s) (nme t) ↔ Reach (nb ef et k) s t := by
  constructor
  · intro h
    obtain ⟨t', ht', e, hr⟩ := h.closed (T := fun v => ∃ t, t < 256 ∧ v = nme t ∧ Reach (nb ef et k) s t) (by
      rintro u ⟨t, ht, rfl, hr⟩ v hv
      obtain ⟨i, hi, h1, h2⟩ := mem_adjE.1 hv
      have h3 := nme_inj (hf i) ht h1
      exact ⟨et i, he i, h2.symm, hr.trans (Reach.edge (mem_nb.2 ⟨i, hi, h3, rfl⟩))⟩) ⟨s, hs, rfl, Reach.refl _ _⟩
    rw [nme_inj ht ht' e]
    exact hr
  · intro h
    exact (h.closed (T := fun t => t < 256 ∧ Reach (adjE ef et k) (nme s) (nme t)) (by
      rintro u ⟨hu, hr⟩ v hv
      obtain ⟨i, hi, h1, h2⟩ := mem_nb.1 hv
      exact ⟨by rw [← h2]; exact he i, hr.trans (Reach.edge (mem_adjE.2 ⟨i, hi, by rw [h1], by rw [h2]⟩))⟩) ⟨hs, Reach.refl _ _⟩).2

/-- What lies in memory behind the search. -/
structure L2 (w0 w W : World) (gm g1 g2 k : Nat) (ef et : Nat → Nat) (st : List ByteArray) (sv : Value) (ld li ll : List (ByteArray × Value)) : Prop where
  bel : Below w0.heap.size w0 w
  i1 : In3 w g1 k ef
  i2 : In3 w g2 k et
  dq : Dq W w gm sv ld li ll st

theorem L2.below {w0 w w' W : World} {gm g1 g2 k : Nat} {ef et : Nat → Nat} {st : List ByteArray} {sv : Value} {ld li ll : List (ByteArray × Value)} (h : L2 w0 w W gm g1 g2 k ef et st sv ld li ll) (hb : Below w.heap.size w w') : L2 w0 w' W gm g1 g2 k ef et st sv ld li ll :=
  ⟨h.bel.trans (hb.mono h.bel.size), h.i1.below hb h.i1.blk, h.i2.below hb h.i2.blk, h.dq.below hb⟩

theorem row_below {w w' : World} {g n : Nat} {t : TypeId} {f : Nat → Value} (h : w.rowIs g t n f) (hb : Below w.heap.size w w') : w'.rowIs g t n f := h.of_block (hb.block _ h.lt)

/-- The plain facts of the search that the laws use. -/
structure Pl (ef et : Nat → Nat) (k : Nat) (fq : Nat → Nat) (m : Nat) (s : Ts ByteArray) : Prop where
  f : ∀ i, ef i < 256
  t : ∀ i, et i < 256
  q : ∀ i, fq i < 256
  inv : Inv (adjE ef et k) (TQ ef et k fq m) s []
  must : ∀ q, q < m → s.idx (nme (fq q)) ≠ none

theorem Pl.idx_dep {ef et : Nat → Nat} {k : Nat} {fq : Nat → Nat} {m : Nat} {s : Ts ByteArray} (h : Pl ef et k fq m s) {v : ByteArray} (hv : s.idx v ≠ none) : s.dep v ≠ none := fun hd => by
  have := (h.inv.stk v).2 ⟨hv, hd⟩
  rw [h.inv.empty] at this
  simp at this

theorem Pl.le255 {ef et : Nat → Nat} {k : Nat} {fq : Nat → Nat} {m : Nat} {s : Ts ByteArray} (h : Pl ef et k fq m s) {v : ByteArray} {d : Nat} (hd : s.dep v = some d) : d ≤ 255 := by
  have := h.inv.bound allN (fun v hv => TQ.all h.t h.q v (h.inv.tt v (h.inv.cov v hv))) hd
  rw [allN_length] at this
  omega

theorem Pl.role {ef et : Nat → Nat} {k : Nat} {fq : Nat → Nat} {m : Nat} {s : Ts ByteArray} (h : Pl ef et k fq m s) {i d : Nat} (hi : i < k) (hd : s.dep (nme (ef i)) = some d) : ∃ e, s.dep (nme (et i)) = some e ∧ (Reach (nb ef et k) (et i) (ef i) → e = d) ∧ (¬ Reach (nb ef et k) (et i) (ef i) → e < d) := by
  have hm : nme (et i) ∈ adjE ef et k (nme (ef i)) := mem_adjE.2 ⟨i, hi, rfl, rfl⟩
  obtain ⟨e, he⟩ := Option.ne_none_iff_exists'.1 (h.inv.d1 _ (by rw [hd]; simp) _ hm)
  have h2 := h.inv.d2 _ _ hd _ hm e he
  rw [reach_names h.f h.t (h.t i) (h.f i)] at h2
  exact ⟨e, he, h2⟩

end Go.Proofs.Qxb6000628a
