/-
  Maps keyed by strings, told as lists of (key, value): look-up, store, length: laws for whatever program. No Go text here.
-/
import Derived.Test.Qxb6000628aRows
import Derived.WalkKit
import Derived.WalkSpells
import Derived.MapKept
import Derived.Maps.OwnSet
import Derived.Deep.OwnRows
import Derived.Deep.Draws
import Derived.WalkSmall
import Derived.Below
namespace Go.Proofs.Qxb6000628a
open Go.RowKit

/-- Kept from the walk's rewriting. -/
theorem hide {p : Prop} (h : p) : Hid p := h

/-- The first value at a key. -/
def mget : List (ByteArray × Value) → ByteArray → Option Value
  | [], _ => none
  | (k, v) :: l, s => if k = s then some v else mget l s

/-- A store. -/
def mput : List (ByteArray × Value) → ByteArray → Value → List (ByteArray × Value)
  | [], s, v => [(s, v)]
  | (k, u) :: l, s, v => if k = s then (s, v) :: l else (k, u) :: mput l s v

theorem mget_mput (l : List (ByteArray × Value)) (s t : ByteArray) (v : Value) : mget (mput l s v) t = if s = t then some v else mget l t := by
  induction l with
  | nil => rfl
  | cons p l ih =>
    obtain ⟨k, u⟩ := p
    unfold mput
    by_cases h : k = s
    · subst h
      rw [if_pos rfl]
      show (if k = t then some v else mget l t) = if k = t then some v else if k = t then some u else mget l t
      by_cases h2 : k = t
      · rw [if_pos h2, if_pos h2]
      · rw [if_neg h2, if_neg h2, if_neg h2]
    · rw [if_neg h]
      show (if k = t then some u else mget (mput l s v) t) = if s = t then some v else if k = t then some u else mget l t
      by_cases h2 : k = t
      · subst h2
        rw [if_pos rfl, if_neg (fun e => h e.symm), if_pos rfl]
      · rw [if_neg h2, if_neg h2, ih]

theorem mput_length_of_some : ∀ {l : List (ByteArray × Value)} {s : ByteArray} {v u : Value}, mget l s = some u → (mput l s v).length = l.length
  | [], _, _, _, h => by simp [mget] at h
  | (k, x) :: l, s, v, u, h => by
    unfold mput
    by_cases e : k = s
    · rw [if_pos e]; rfl
    · rw [if_neg e]
      simp only [mget, if_neg e] at h
      simp [mput_length_of_some (v := v) h]

theorem mput_of_none : ∀ {l : List (ByteArray × Value)} {s : ByteArray} {v : Value}, mget l s = none → mput l s v = l ++ [(s, v)]
  | [], _, _, _ => rfl
  | (k, x) :: l, s, v, h => by
    unfold mput
    by_cases e : k = s
    · simp [mget, e] at h
    · rw [if_neg e]
      simp only [mget, if_neg e] at h
      rw [mput_of_none h]; rfl

/-- Block r is a map whose entries are l, in the order of their first stores. -/
def MapIs (w : World) (r : Nat) (l : List (ByteArray × Value)) : Prop :=
  ∃ es clock, w.heap[r]? = some (.map es clock) ∧ es.toList.map (fun e => (e.key, e.val)) = l.map (fun p => (Value.string p.1, p.2))

theorem MapIs.lt {w : World} {r : Nat} {l : List (ByteArray × Value)} (h : MapIs w r l) : r < w.heap.size := by
  obtain ⟨es, c, h1, _⟩ := h
  exact (Array.getElem?_eq_some_iff.1 h1).1

theorem MapIs.of_block {w w' : World} {r : Nat} {l : List (ByteArray × Value)} (h : MapIs w r l) (e : w'.heap[r]? = w.heap[r]?) : MapIs w' r l := by
  obtain ⟨es, c, h1, h2⟩ := h
  exact ⟨es, c, e.trans h1, h2⟩

theorem MapIs.made (w : World) : MapIs (w.alloc (.map #[] 0)) w.heap.size [] := ⟨#[], 0, Go.Deep.blk_alloc_new _ _, rfl⟩

theorem MapIs.nocell {w : World} {r : Nat} {l : List (ByteArray × Value)} (h : MapIs w r l) (o : Nat) (p : Option Nat) : w.cell? ⟨r, o, p⟩ = none := by
  obtain ⟨es, c, h1, _⟩ := h
  simp [World.cell?, h1]

theorem string_key {es : List MapEntry} {l : List (ByteArray × Value)} (h : es.map (fun e => (e.key, e.val)) = l.map (fun p => (Value.string p.1, p.2))) : ∀ x ∈ es, MapKept.IsKey .string x.key := by
  intro x hx
  have : (x.key, x.val) ∈ es.map (fun e => (e.key, e.val)) := List.mem_map.2 ⟨x, hx, rfl⟩
  rw [h] at this
  obtain ⟨p, _, hp⟩ := List.mem_map.1 this
  have : x.key = .string p.1 := (congrArg Prod.fst hp).symm
  rw [this]
  trivial

/-- findNow, by the list. -/
theorem findNow_mget : ∀ (es : List MapEntry) (l : List (ByteArray × Value)) (i : Nat) (s : ByteArray), es.map (fun e => (e.key, e.val)) = l.map (fun p => (Value.string p.1, p.2)) →
    (mget l s = none ∧ Instr.findNow .string (.string s) es i = some none) ∨
    ∃ j v, mget l s = some v ∧ Instr.findNow .string (.string s) es i = some (some (i + j, v)) ∧ (∃ e, es[j]? = some e ∧ e.key = .string s) ∧ ∀ u, mput l s u = l.set j (s, u)
  | [], [], i, s, _ => .inl ⟨rfl, rfl⟩
  | [], _ :: _, _, _, h => by simp at h
  | _ :: _, [], _, _, h => by simp at h
  | e :: es, (k, v) :: l, i, s, h => by
    simp only [List.map_cons, List.cons.injEq, Prod.mk.injEq] at h
    obtain ⟨⟨h1, h2⟩, h3⟩ := h
    obtain ⟨r, hr, hiff⟩ := MapKept.sameNow_of_keys (d := .string) (a := .string s) (b := e.key) trivial (by rw [h1]; trivial)
    by_cases hk : k = s
    · subst hk
      have hrt : r = true := hiff.2 h1.symm
      refine .inr ⟨0, v, by simp [mget], ?_, ⟨e, rfl, h1⟩, fun u => by simp [mput]⟩
      simp [Instr.findNow, hr, hrt, h2]
    · have hrf : r = false := by
        cases r with
        | false => rfl
        | true => exact absurd (by have := hiff.1 rfl; rw [h1] at this; injection this with this; exact this.symm) hk
      rcases findNow_mget es l (i + 1) s h3 with ⟨a1, a2⟩ | ⟨j, u, a1, a2, ⟨e', a3, a4⟩, a5⟩
      · refine .inl ⟨by simp [mget, hk, a1], ?_⟩
        simp [Instr.findNow, hr, hrf, a2]
      · refine .inr ⟨j + 1, u, by simp [mget, hk, a1], ?_, ⟨e', by simpa using a3, a4⟩, fun u => by simp [mput, hk, a5]⟩
        simp only [Instr.findNow, hr, hrf, a2]
        congr 3
        omega

section
variable {P : Program} {w : World} {t k e : TypeId} {r : Nat} {l : List (ByteArray × Value)}

theorem run_look (ht : P.underlying t = some (.map k e)) (hk : P.underlying k = some .string) (h : MapIs w r l) {s : ByteArray} {v : Value} (hv : mget l s = some v) (c : Bool) :
    (Instr.lookup t (.map (some r)) (.string s) c).run P w = .ok (if c then .tuple #[v, .bool true] else v) w := by
  obtain ⟨es, clock, h1, h2⟩ := h
  rcases findNow_mget es.toList l 0 s h2 with ⟨a1, _⟩ | ⟨j, u, a1, a2, _, _⟩
  · rw [a1] at hv; cases hv
  · rw [a1] at hv
    cases hv
    simp [Instr.lookup, run_underlying ht, MapKept.run_getObj_map h1, MapKept.run_checkKey hk (k := .string s) trivial, MapKept.run_findKey hk a2, Result.andThen]

theorem run_look_none (ht : P.underlying t = some (.map k e)) (hk : P.underlying k = some .string) (h : MapIs w r l) {s : ByteArray} (hv : mget l s = none) {z : Value} (hz : (zeroValue e).run P w = .ok z w) (c : Bool) :
    (Instr.lookup t (.map (some r)) (.string s) c).run P w = .ok (if c then .tuple #[z, .bool false] else z) w := by
  obtain ⟨es, clock, h1, h2⟩ := h
  rcases findNow_mget es.toList l 0 s h2 with ⟨_, a2⟩ | ⟨j, u, a1, _⟩
  · simp [Instr.lookup, run_underlying ht, MapKept.run_getObj_map h1, MapKept.run_checkKey hk (k := .string s) trivial, MapKept.run_findKey hk a2, Result.andThen, hz]
  · rw [a1] at hv; cases hv

/-- Only block r has turned. -/
structure Only (r : Nat) (w w' : World) : Prop where
  os : w'.os = w.os
  tape : w'.tape = w.tape
  output : w'.output = w.output
  size : w'.heap.size = w.heap.size
  block : ∀ b, b ≠ r → w'.heap[b]? = w.heap[b]?
  cell : ∀ a, w'.cell? a = w.cell? a
  frozen : ∀ a, w'.frozen? a = w.frozen? a

theorem only_set {w : World} {r : Nat} {es es' : Array MapEntry} {c c' : Nat} (h : w.heap[r]? = some (.map es c)) : Only r w { w with heap := w.heap.setIfInBounds r (.map es' c') } := by
  have hs := MapKept.heap_set (w := w) (o' := .map es' c') h
  refine ⟨rfl, rfl, rfl, by simp, fun b hb => hs.2 b hb, fun a => ?_, fun a => ?_⟩
  · by_cases e : a.block = r
    · simp only [World.cell?]
      rw [e, hs.1, h]
    · simp only [World.cell?]
      rw [hs.2 _ e]
  · by_cases e : a.block = r
    · simp only [World.frozen?]
      rw [e, hs.1, h]
    · simp only [World.frozen?]
      rw [hs.2 _ e]

theorem run_put (ht : P.underlying t = some (.map k e)) (hk : P.underlying k = some .string) (h : MapIs w r l) (s : ByteArray) (v : Value) :
    ∃ w', (Instr.mapUpdate t (.map (some r)) (.string s) v).run P w = .ok () w' ∧ MapIs w' r (mput l s v) ∧ Only r w w' := by
  obtain ⟨es, clock, h1, h2⟩ := h
  rcases findNow_mget es.toList l 0 s h2 with ⟨a1, a2⟩ | ⟨j, u, a1, a2, ⟨e', a3, a4⟩, a5⟩
  · refine ⟨{ w with heap := w.heap.setIfInBounds r (.map (es.push { key := .string s, val := v, born := clock }) (clock + 1)) }, ?_, ⟨_, _, (MapKept.heap_set h1).1, ?_⟩, only_set h1⟩
    · simp [Instr.mapUpdate, run_underlying ht, MapKept.run_getObj_map h1, MapKept.run_checkKey hk (k := .string s) trivial, MapKept.run_findKey hk a2, MapKept.run_setObj_map _ h1, Result.andThen]
    · rw [mput_of_none a1]
      simp [h2]
  · have a3' : es[j]? = some e' := by simpa using a3
    refine ⟨{ w with heap := w.heap.setIfInBounds r (.map (es.modify j fun x => { x with key := .string s, val := v }) clock) }, ?_, ⟨_, _, (MapKept.heap_set h1).1, ?_⟩, only_set h1⟩
    · simp only [Nat.zero_add] at a2
      simp [Instr.mapUpdate, run_underlying ht, MapKept.run_getObj_map h1, MapKept.run_checkKey hk (k := .string s) trivial, MapKept.run_findKey hk a2, a3', a4,
        MapKept.run_keyThatStays (d := .string) (k := .string s) trivial, MapKept.run_setObj_map _ h1, Result.andThen]
    · rw [a5]
      apply List.ext_getElem?
      intro i
      have h2i := congrArg (fun z => z[i]?) h2
      simp only [List.getElem?_map] at h2i
      simp only [List.getElem?_map, List.getElem?_set, Array.getElem?_toList, Array.getElem?_modify]
      by_cases hij : j = i
      · subst hij
        rw [if_pos rfl, if_pos rfl]
        have hl : j < l.length := by
          have hlen := congrArg List.length h2
          simp only [List.length_map] at hlen
          have := (List.getElem?_eq_some_iff.1 a3).1
          omega
        rw [if_pos hl, a3']
        rfl
      · rw [if_neg hij, if_neg hij]
        simpa using h2i

/-- The look-up at the operation. -/
theorem wpList_look {ops : Array Oper} {rest : List Oper} {o : Oper} {a : Act} {Q : Exit → Act → World → Prop} (hg : o.guard = none) (m x : Operand) (t : TypeId) (c : Bool) (hop : o.op = Op.lookup t m x c)
    {z : Value} (hrun : (Instr.lookup t (a.eval m) (a.eval x) c).run P w = .ok z w) (hK : wpList P ops Q rest (a.put o.dst z) w) : wpList P ops Q (o :: rest) a w := by
  refine wpList_plain hg fun K' hK' => ?_
  unfold Oper.wp
  simp [execOp, hop, hrun, Result.andThen]
  exact hK' _ _ hK

/-- The store at the operation. -/
theorem wpList_put {ops : Array Oper} {rest : List Oper} {o : Oper} {a : Act} {Q : Exit → Act → World → Prop} (hg : o.guard = none) (m x y : Operand) (t : TypeId) (hop : o.op = Op.mapUpdate t m x y)
    {w' : World} (hrun : (Instr.mapUpdate t (a.eval m) (a.eval x) (a.eval y)).run P w = .ok () w') (hK : wpList P ops Q rest (a.put o.dst undef) w') : wpList P ops Q (o :: rest) a w := by
  refine wpList_plain hg fun K' hK' => ?_
  unfold Oper.wp
  simp [execOp, hop, hrun, Result.andThen]
  exact hK' _ _ hK

/-- len at the operation. -/
theorem wpList_mlen {ops : Array Oper} {rest : List Oper} {o : Oper} {a : Act} {Q : Exit → Act → World → Prop} (hg : o.guard = none) (m : Operand) (t : TypeId) (hop : o.op = Op.call { callee := .builtin .len, args := #[m], argTypes := #[t] })
    {z : Value} (hrun : (Builtin.len_ #[t] o.type #[a.eval m]).run P w = .ok z w) (hK : wpList P ops Q rest (a.put o.dst z) w) : wpList P ops Q (o :: rest) a w := by
  refine wpList_plain hg fun K' hK' => ?_
  unfold Oper.wp
  simp [execOp, hop, resolve, invoke, builtin, hrun, Result.andThen]
  exact hK' _ _ hK

theorem run_mlen (ht : P.underlying t = some (.map k e)) (h : MapIs w r l) (ty : TypeId) : (Builtin.len_ #[t] ty #[.map (some r)]).run P w = .ok (goInt l.length) w := by
  obtain ⟨es, clock, h1, h2⟩ := h
  have hlen : es.size = l.length := by
    have := congrArg List.length h2
    simpa using this
  simp [Builtin.len_, run_underlying ht, MapKept.run_getObj_map h1, hlen]

end

end Go.Proofs.Qxb6000628a
