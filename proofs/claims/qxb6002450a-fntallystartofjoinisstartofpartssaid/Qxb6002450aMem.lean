/-
  Plain facts on memory for the tally laws: index slices, chains of links, the pool of sections. No Go text here.
-/
import Derived.Test.Qxb6002450aRows
import Derived.WalkKit
import Derived.WalkSpells
import Derived.Deep.OwnRows
import Derived.Deep.Draws
import Derived.WalkSmall
import Derived.Below
import Derived.LaidEql
namespace Go.Proofs.Qxb6002450a
open Go.RowKit

/-- [f k, f (k+1), .., f (k+j-1)]. -/
def lst (f : Nat → Nat) : Nat → Nat → List Nat
  | _, 0 => []
  | k, j + 1 => f k :: lst f (k + 1) j

/-- A slice of n bytes f 0 .. f (n-1): nil or a row of its own in block g. -/
structure Idx (w : World) (a : Option Addr) (n : Nat) (g : Nat) (f : Nat → Nat) : Prop where
  small : n ≤ 65536
  byte : ∀ i, f i < 256
  row : 0 < n → a = some ⟨g, 0, none⟩ ∧ w.rowIs g 5 n (fun i => .int .u8 (f i : Int))

theorem Idx.of_block {w w' : World} {a : Option Addr} {n g : Nat} {f : Nat → Nat} (h : Idx w a n g f) (e : w'.heap[g]? = w.heap[g]?) : Idx w' a n g f :=
  ⟨h.small, h.byte, fun h0 => ⟨(h.row h0).1, (h.row h0).2.of_block e⟩⟩

theorem Idx.lt {w : World} {a : Option Addr} {n g : Nat} {f : Nat → Nat} (h : Idx w a n g f) (h0 : 0 < n) : g < w.heap.size := (h.row h0).2.lt

theorem Idx.below {w w' : World} {a : Option Addr} {n g : Nat} {f : Nat → Nat} (h : Idx w a n g f) (hb : Below w.heap.size w w') : Idx w' a n g f :=
  ⟨h.small, h.byte, fun h0 => ⟨(h.row h0).1, (h.row h0).2.of_block (hb.block g (h.lt h0))⟩⟩

/-- A link's two cells. -/
def node (x y : Value) : Nat → Value := fun j => if j = 0 then x else y

/-- A chain of links from p through the sections at sec s (s in the list) to q; its blocks lie from B on and below B'. -/
def Seg (w : World) (sec : Nat → Addr) (B B' : Nat) : Value → List Nat → Value → Prop
  | p, [], q => p = q
  | p, s :: l, q => ∃ b r, p = .pointer (some ⟨b, 0, none⟩) ∧ B ≤ b ∧ b < B' ∧ w.rowIs b 42 2 (node (.pointer (some (sec s))) (.pointer r)) ∧ Seg w sec B B' (.pointer r) l q

theorem Seg.blocks {w w' : World} {sec : Nat → Addr} {B B' : Nat} (hb : ∀ b, B ≤ b → b < B' → w'.heap[b]? = w.heap[b]?) : ∀ {l : List Nat} {p q : Value}, Seg w sec B B' p l q → Seg w' sec B B' p l q
  | [], _, _, h => h
  | _ :: _, _, _, ⟨b, r, h1, h2, h3, h4, h6⟩ => ⟨b, r, h1, h2, h3, h4.of_block (hb b h2 h3), Seg.blocks hb h6⟩

theorem Seg.below {w w' : World} {sec : Nat → Addr} {B B' C : Nat} (hb : Below C w w') (hC : B' ≤ C) {l : List Nat} {p q : Value} (h : Seg w sec B B' p l q) : Seg w' sec B B' p l q :=
  h.blocks (fun b _ hb' => hb.block b (by omega))

theorem Seg.widen {w : World} {sec : Nat → Addr} {B B' C C' : Nat} (h1 : C ≤ B) (h2 : B' ≤ C') : ∀ {l : List Nat} {p q : Value}, Seg w sec B B' p l q → Seg w sec C C' p l q
  | [], _, _, h => h
  | _ :: _, _, _, ⟨b, r, a1, a2, a3, a4, a6⟩ => ⟨b, r, a1, by omega, by omega, a4, Seg.widen h1 h2 a6⟩

theorem Seg.append {w : World} {sec : Nat → Addr} {B B' : Nat} : ∀ {l m : List Nat} {p q r : Value}, Seg w sec B B' p l q → Seg w sec B B' q m r → Seg w sec B B' p (l ++ m) r
  | [], _, _, _, _, h, k => by cases h; exact k
  | _ :: _, _, _, _, _, ⟨b, r, a1, a2, a3, a4, a6⟩, k => ⟨b, r, a1, a2, a3, a4, Seg.append a6 k⟩

theorem Seg.isPtr {w : World} {sec : Nat → Addr} {B B' : Nat} {l : List Nat} {p : Value} {q : Option Addr} (h : Seg w sec B B' p l (.pointer q)) : ∃ x, p = .pointer x := by
  cases l with
  | nil => exact ⟨q, h⟩
  | cons s l => obtain ⟨b, r, h1, _⟩ := h; exact ⟨_, h1⟩

theorem rowIs_link (w : World) (x y : Value) : (w.alloc (.cells #[x, y] 42)).rowIs w.heap.size 42 2 (node x y) :=
  World.rowIs_alloc w #[x, y] 42 (node x y) (fun j hj => by
    have : j = 0 ∨ j = 1 := by simp at hj; omega
    rcases this with rfl | rfl <;> rfl)

/-! Two pointers compared. -/
theorem neq_same {P : Program} {t e : TypeId} {i : TypeInfo} (ht : P.underlying t = some (.pointer e)) (hi : P.info? e = some i) (a : Addr) (w : World) :
    (binOp .neq t (.pointer (some a)) (.pointer (some a))).run P w = .ok (.bool false) w := by
  have h : ∀ d : Nat, (Op.equalIn (d + 1) t (.pointer (some a)) (.pointer (some a))).run P w = .ok true w := fun d => by
    simp [Op.equalIn, run_underlying ht, sizeOf, typeInfo, hi, run_sameAddr_same]
  simp only [binOp]
  simp [Op.equal, Op.maxDepth, h 9999]

theorem eql_other {P : Program} {t e : TypeId} {i : TypeInfo} (ht : P.underlying t = some (.pointer e)) (hi : P.info? e = some i) (hs : i.size ≠ 0) {b b' : Nat} {w : World} {u u' : TypeId} {n n' : Nat} {f f' : Nat → Value}
    (h1 : w.rowIs b u n f) (h2 : w.rowIs b' u' n' f') (hne : b ≠ b') :
    (binOp .eql t (.pointer (some ⟨b, 0, none⟩)) (.pointer (some ⟨b', 0, none⟩))).run P w = .ok (.bool false) w := by
  obtain ⟨c, hc, _⟩ := h1
  obtain ⟨c', hc', _⟩ := h2
  have hne' : (⟨b, 0, none⟩ : Addr) ≠ ⟨b', 0, none⟩ := fun e => hne (congrArg Addr.block e)
  have h : ∀ d : Nat, (Op.equalIn (d + 1) t (.pointer (some ⟨b, 0, none⟩)) (.pointer (some ⟨b', 0, none⟩))).run P w = .ok false w := fun d => by
    simp [Op.equalIn, run_underlying ht, sizeOf, typeInfo, hi, hs, run_sameAddr_other w (a := ⟨b, 0, none⟩) (b := ⟨b', 0, none⟩) hne' hc hc']
  simp only [binOp]
  simp [Op.equal, Op.maxDepth, h 9999]

/-- A section's three cells. -/
def sect (s c : Nat) : Nat → Value := fun j => if j = 0 then .pointer none else if j = 1 then .int .u64 (s : Int) else .int .u64 (c : Int)

/-- The pool in block g: 256 pointers to the sections in the blocks behind it, with S i starts and C i completions. -/
structure Pool (w : World) (g : Nat) (S C : Nat → Nat) : Prop where
  top : w.rowIs g 30 256 (fun i => .pointer (some ⟨g + 1 + i, 0, none⟩))
  sec : ∀ i, i < 256 → w.rowIs (g + 1 + i) 50 3 (sect (S i) (C i))

theorem Pool.below {B : Nat} {w w' : World} {g : Nat} {S C : Nat → Nat} (h : Pool w g S C) (hb : Below B w w') (hg : g + 257 ≤ B) : Pool w' g S C :=
  ⟨h.top.of_block (hb.block g (by omega)), fun i hi => (h.sec i hi).of_block (hb.block _ (by omega))⟩

/-- The pool while it is made: k of its sections are there. -/
structure PoolTo (w wr : World) (k : Nat) : Prop where
  top : wr.rowIs w.heap.size 30 256 (fun i => if i < k then .pointer (some ⟨w.heap.size + 1 + i, 0, none⟩) else .pointer none)
  sec : ∀ i, i < k → wr.rowIs (w.heap.size + 1 + i) 50 3 (sect 0 0)
  size : wr.heap.size = w.heap.size + 1 + k
  bel : Below w.heap.size w wr

theorem PoolTo.start (w : World) : PoolTo w (w.alloc (.cells (madeCells #[.pointer none] 256) 30)) 0 :=
  ⟨(World.rowIs_made w (.pointer none) 256 30).congr (fun i _ => by simp), fun i hi => by omega, by simp, (Below.refl _ _).alloc (Nat.le_refl _) _⟩

theorem PoolTo.step {w wr : World} {k : Nat} (h : PoolTo w wr k) :
    PoolTo w ((wr.setCell ⟨w.heap.size, k, none⟩ (.pointer (some ⟨wr.heap.size, 0, none⟩))).alloc (.cells #[.pointer none, .int .u64 0, .int .u64 0] 50)) (k + 1) := by
  obtain ⟨h1, h2, h3, h4⟩ := h
  refine ⟨((h1.set k _).alloc _).congr ?_, ?_, by simp; omega, (h4.setCell (Nat.le_refl _) _).alloc (by simp; omega) _⟩
  · intro i hi
    by_cases e : i = k
    · subst e; simp [h3]
    · by_cases e2 : i < k
      · have : i < k + 1 := by omega
        simp [e, e2, this]
      · have : ¬ i < k + 1 := by omega
        simp [e, e2, this]
  · intro i hi
    by_cases e : i = k
    · subst e
      have hs : (wr.setCell ⟨w.heap.size, i, none⟩ (.pointer (some ⟨wr.heap.size, 0, none⟩))).heap.size = w.heap.size + 1 + i := by simp [h3]
      have := World.rowIs_alloc (wr.setCell ⟨w.heap.size, i, none⟩ (.pointer (some ⟨wr.heap.size, 0, none⟩))) #[.pointer none, .int .u64 0, .int .u64 0] 50 (sect 0 0)
        (fun j hj => by
          have : j = 0 ∨ j = 1 ∨ j = 2 := by simp at hj; omega
          rcases this with rfl | rfl | rfl <;> rfl)
      rw [hs] at this
      exact this
    · exact ((h2 i (by omega)).setOther (by show w.heap.size + 1 + i ≠ w.heap.size; omega) _).alloc _

theorem PoolTo.done {w wr : World} (h : PoolTo w wr 256) : Pool wr w.heap.size (fun _ => 0) (fun _ => 0) :=
  ⟨h.top.congr (fun i hi => by simp [hi]), h.sec⟩

def secOf (g : Nat) : Nat → Addr := fun i => ⟨g + 1 + i, 0, none⟩

end Go.Proofs.Qxb6002450a
