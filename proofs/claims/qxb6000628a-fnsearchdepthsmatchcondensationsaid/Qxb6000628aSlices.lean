/-
  Slices of one-cell elements that the calls make: told as lists of values; append of one element. No Go text here.
-/
import Derived.Test.Qxb6000628aMaps
import Derived.Maps.AppendAt
namespace Go.Proofs.Qxb6000628a
open Go.RowKit

/-- v is a slice whose elements are xs: it owns its whole row, or it is full. -/
def Sl (w : World) (e : TypeId) (v : Value) (xs : List Value) : Prop :=
  w.ownsRow 0 e 1 v xs.length xs ∨
  ∃ b o cur, v = .slice (some ⟨b, o, none⟩) xs.length xs.length ∧ 0 < xs.length ∧ xs.length ≤ maxLen ∧ w.heap[b]? = some (.cells cur e (0, 0)) ∧ ∀ (i : Nat) (u : Value), xs[i]? = some u → cur[o + i]? = some u

theorem Sl.nil (w : World) (e : TypeId) : Sl w e (.slice none 0 0) [] := .inl (World.ownsRow_nil w 0 e 1)

theorem Sl.of_block {w w' : World} {e : TypeId} {v : Value} {xs : List Value} (h : Sl w e v xs) (hb : ∀ k, v.ownBlock = some k → w'.heap[k]? = w.heap[k]?) : Sl w' e v xs := by
  rcases h with ⟨h1, h2⟩ | ⟨b, o, cur, rfl, h2, h3, h4, h5⟩
  · refine .inl ⟨h1, ?_⟩
    rcases h2 with h2 | ⟨g, cap, cur, rfl, hg, hh, rest⟩
    · exact .inl h2
    · exact .inr ⟨g, cap, cur, rfl, hg, (hb g rfl).trans hh, rest⟩
  · exact .inr ⟨b, o, cur, rfl, h2, h3, (hb b rfl).trans h4, h5⟩

/-- What it looks like and what its cells hold. -/
theorem Sl.shape {w : World} {e : TypeId} {v : Value} {xs : List Value} (h : Sl w e v xs) :
    ∃ a cap, v = .slice a xs.length cap ∧ (a = none → xs = []) ∧ ∀ b o, a = some ⟨b, o, none⟩ → ∀ i u, xs[i]? = some u → w.cell? ⟨b, o + i, none⟩ = some u := by
  rcases h with ⟨h1, h2⟩ | ⟨b, o, cur, rfl, h2, h3, h4, h5⟩
  · rcases h2 with ⟨rfl, h2⟩ | ⟨g, cap, cur, rfl, hg, hh, hn, hm, hs, ht⟩
    · refine ⟨none, 0, by rw [h2], fun _ => List.eq_nil_of_length_eq_zero h2, fun b o h => by cases h⟩
    · refine ⟨some ⟨g, 0, none⟩, cap, rfl, fun h => (by cases h), ?_⟩
      intro b o hbo i u hu
      cases hbo
      have hi : i < xs.length := (List.getElem?_eq_some_iff.1 hu).1
      rw [Nat.mul_one] at ht
      rw [← ht, List.getElem?_take, if_pos hi] at hu
      simp only [World.cell?, hh, Nat.zero_add]
      simpa using hu
  · refine ⟨some ⟨b, o, none⟩, xs.length, rfl, fun h => (by cases h), ?_⟩
    intro b' o' hbo i u hu
    cases hbo
    simp only [World.cell?, h4]
    simpa using h5 i u hu

theorem Sl.at {w : World} {e : TypeId} {v : Value} {xs : List Value} (h : Sl w e v xs) (h0 : 0 < xs.length) :
    ∃ b o cap, v = .slice (some ⟨b, o, none⟩) xs.length cap ∧ ∀ (i : Nat) (u : Value), xs[i]? = some u → w.cell? ⟨b, o + i, none⟩ = some u := by
  rcases h with ⟨h1, h2⟩ | ⟨b, o, cur, rfl, h2, h3, h4, h5⟩
  · rcases h2 with ⟨rfl, h2⟩ | ⟨g, cap, cur, rfl, hg, hh, hn, hm, hs, ht⟩
    · omega
    · refine ⟨g, 0, cap, rfl, ?_⟩
      intro i u hu
      have hi : i < xs.length := (List.getElem?_eq_some_iff.1 hu).1
      rw [Nat.mul_one] at ht
      rw [← ht, List.getElem?_take, if_pos hi] at hu
      simp only [World.cell?, hh, Nat.zero_add]
      simpa using hu
  · refine ⟨b, o, xs.length, rfl, ?_⟩
    intro i u hu
    simp only [World.cell?, h4]
    simpa using h5 i u hu

theorem Sl.block {w : World} {e : TypeId} {v : Value} {xs : List Value} (h : Sl w e v xs) {k : Nat} (hk : v.ownBlock = some k) : ∃ cur, w.heap[k]? = some (.cells cur e (0, 0)) := by
  rcases h with ⟨h1, h2⟩ | ⟨b, o, cur, rfl, h2, h3, h4, h5⟩
  · rcases h2 with ⟨rfl, h2⟩ | ⟨g, cap, cur, rfl, hg, hh, _⟩
    · simp [Value.ownBlock] at hk
    · simp [Value.ownBlock] at hk
      subst hk
      exact ⟨cur, hh⟩
  · simp [Value.ownBlock] at hk
    subst hk
    exact ⟨cur, h4⟩

section
variable {P : Program} {w : World}

/-- append(v, x). -/
theorem run_app {t ty e : TypeId} {i : TypeInfo} {z : Value} {bytes : Nat} (ht : P.underlying t = some (.slice e)) (hi : P.info? e = some i) (hz : i.zero = some z) (hs : i.size = 1) (hby : i.bytes = bytes) (hzs : z.cells.size = 1)
    {v : Value} {xs : List Value} (h : Sl w e v xs) {a : Addr} {x : Value} (hx : w.cell? a = some x) (h1 : x.oneCell' = true) (hlen : (xs.length + 1) * bytes ≤ 140737488355328) (hmax : xs.length + 1 ≤ maxLen) (c : Nat) :
    ∃ g cap w', (Builtin.append_ #[t, t] ty #[v, .slice (some a) 1 c]).run P w = .ok (.slice (some ⟨g, 0, none⟩) (xs.length + 1) cap) w' ∧ Sl w' e (.slice (some ⟨g, 0, none⟩) (xs.length + 1) cap) (xs ++ [x]) ∧ w.grownBy w' v.ownBlock ∧ (some g = v.ownBlock ∨ g = w.heap.size) := by
  suffices hh : ∃ v' w', (Builtin.append_ #[t, t] ty #[v, .slice (some a) 1 c]).run P w = .ok v' w' ∧ w'.ownsRow 0 e 1 v' (xs.length + 1) (xs ++ [x]) ∧ w.grownBy w' v.ownBlock ∧ (v'.ownBlock = v.ownBlock ∨ v'.ownBlock = some w.heap.size) by
    obtain ⟨v', w', r1, r2, r3, r4⟩ := hh
    rcases r2.2 with ⟨_, h0⟩ | ⟨g, cap, cur, hv, rest⟩
    · omega
    · subst hv
      refine ⟨g, cap, w', r1, .inl ?_, r3, ?_⟩
      · have e : (xs ++ [x]).length = xs.length + 1 := by simp
        rw [e]
        exact r2
      · rcases r4 with r4 | r4
        · exact .inl r4
        · right
          simpa [Value.ownBlock] using r4
  have hnews : ∀ j u, [x][j]? = some u → w.cell? (a.add j) = some u := by
    intro j u hj
    match j, hj with
    | 0, hj =>
      simp at hj
      subst hj
      simpa [Addr.add] using hx
  rcases h with h | ⟨b, o, cur, rfl, h2, h3, h4, h5⟩
  · obtain ⟨v', w', r1, r2, r3, _, r5⟩ := run_append_own_at (P := P) w 0 t ty e i z 1 bytes ht hi hz hs hby hzs (by decide) v xs.length xs h a 1 c [x] rfl hnews (by simpa using h1) hmax hlen (Nat.zero_le _)
    exact ⟨v', w', r1, r2, r3, r5⟩
  · have holds : ∀ j u, xs[j]? = some u → w.cell? ((⟨b, o, none⟩ : Addr).add j) = some u := by
      intro j u hj
      rw [Go.WideShapes.add_plain]
      simp only [World.cell?, h4]
      simpa using h5 j u hj
    have hr := run_append_grow (P := P) w t ty e i z ht hi hz ⟨b, o, none⟩ xs.length xs.length xs (by rw [hs, Nat.mul_one]) holds a 1 c [x] (by rw [hs]; rfl) hnews (by omega)
      (by simp only [maxLen] at hmax; omega) (by rw [hby]; exact growslice_fits (by omega) hlen)
    refine ⟨_, _, hr, ⟨by simp, .inr ⟨w.heap.size, _, _, rfl, Nat.zero_le _, heap_alloc_new w.drew _, grownCap_ge w _ _ e, grownCap_le_maxLen w _ _ e hmax, ?_, ?_⟩⟩, ⟨rfl, rfl, rfl, by simp, fun k hk _ => Go.Deep.blk_alloc_lt w.drew _ k hk⟩, .inr rfl⟩
    · have hge := grownCap_ge w (xs.length + 1) xs.length e
      simp only [Array.size_append, List.size_toArray, size_zeroCells, hzs, List.length_cons, List.length_nil]
      omega
    · simp only [Array.toList_append, List.append_assoc]
      rw [← List.append_assoc]
      have : (xs.length + 1) * 1 = (xs ++ [x]).length := by simp
      rw [this]
      exact List.take_left

/-- .. at the operation. -/
theorem wpList_app {ops : Array Oper} {rest : List Oper} {o : Oper} {a : Act} {Q : Exit → Act → World → Prop} (hgd : o.guard = none) (s y : Operand) (t : TypeId)
    (ho : o.op = .call { callee := .builtin .append, args := #[s, y], argTypes := #[t, t] })
    {e : TypeId} {i : TypeInfo} {z : Value} {bytes : Nat} (ht : P.underlying t = some (.slice e)) (hi : P.info? e = some i) (hz : i.zero = some z) (hs : i.size = 1) (hby : i.bytes = bytes) (hzs : z.cells.size = 1)
    {v : Value} {xs : List Value} (hv : a.eval s = v) (h : Sl w e v xs) {ad : Addr} {x : Value} {c : Nat} (hy : a.eval y = .slice (some ad) 1 c) (hx : w.cell? ad = some x) (h1 : x.oneCell' = true)
    (n : Nat) (hn : xs.length = n) (hlen : (n + 1) * bytes ≤ 140737488355328) (hmax : n + 1 ≤ maxLen)
    (hK : ∀ g cap w', Sl w' e (.slice (some ⟨g, 0, none⟩) (n + 1) cap) (xs ++ [x]) → w.grownBy w' v.ownBlock → (some g = v.ownBlock ∨ g = w.heap.size) → wpList P ops Q rest (a.put o.dst (.slice (some ⟨g, 0, none⟩) (n + 1) cap)) w') :
    wpList P ops Q (o :: rest) a w := by
  subst hn
  refine wpList_plain hgd fun K hK' => ?_
  obtain ⟨g, cap, w', r1, r2, r3, r4⟩ := run_app (P := P) (ty := o.type) ht hi hz hs hby hzs h hx h1 hlen hmax c
  unfold Oper.wp execOp
  simp only [ho, resolve, invoke, builtin, Sem.run_bind, Sem.run_pure, Result.andThen_ok, List.map_toArray, List.map_cons, List.map_nil, hv, hy, r1]
  exact hK' _ _ (hK g cap w' r2 r3 r4)

end

end Go.Proofs.Qxb6000628a
