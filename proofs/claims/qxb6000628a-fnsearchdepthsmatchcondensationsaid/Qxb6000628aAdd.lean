/-
  addLink.
-/
import Derived.Test.Qxb6000628aGraph
namespace Go.Proofs.Qxb6000628a
open Go.RowKit

set_option maxHeartbeats 1000000 in
set_option maxRecDepth 100000 in
theorem add_new (gm b : Nat) (name role : ByteArray) (at_ : Int) (l : List (ByteArray × Value)) (w : World) (hm : MapIs w gm l) (hb : w.heap[b]? = some (.cells #[.string name, .string role] 9 (0, 0))) (hn : mget l name = none) :
    Calls Try.prog 43 #[.map (some gm), .slice (some ⟨b, 0, none⟩) 2 2, .int .i64 at_] w fun e w' => e = .returned (.tuple #[]) ∧ MapIs w' gm (mput l name (entV (.slice (some ⟨b, 1, none⟩) 1 1) at_ none)) ∧ Fr (· = gm) w w' := by
  have c0 : w.cell? ⟨b, 0, none⟩ = some (.string name) := by simp [World.cell?, hb]
  have c1 : w.cell? ⟨b, 1, none⟩ = some (.string role) := by simp [World.cell?, hb]
  have Hn := hide hn
  clear hb hn
  go_enter Try.func43, Try.ntmps43
  go_wp2_with fail
  go_quiet (fail)
  have hmW : MapIs (w.drewN nq) gm l := hm.of_block rfl
  have frW : Fr (· = gm) w (w.drewN nq) := (Fr.refl _ w).drewN nq
  generalize w.drewN nq = W at *
  clear hm c0 c1
  have hl := run_look_none Try.underlying28 Try.underlying9 hmW Hn.out (zero67 _) true
  simp only [if_true] at hl
  obtain ⟨w2, hput, hm2, on2⟩ := run_put Try.underlying28 Try.underlying9 (w := W.alloc (.cells #[.slice none 0 0, .int .i64 0, .pointer none] 67)) (hmW.of_block (Go.Deep.blk_alloc_lt _ _ _ hmW.lt)) name (entV (.slice (some ⟨b, 1, none⟩) 1 1) at_ none)
  have fr2 : Fr (· = gm) w w2 := (frW.alloc _).only on2 (fun _ => rfl)
  unfold entV at hput
  clear on2 hmW frW
  go_wp2_with fail
  exact bodyPost_ret (v := .tuple #[]) (by simp [results, Try.results43, go_sem]) rfl ⟨rfl, hm2, fr2⟩

theorem strs_snoc (l : List ByteArray) (s : ByteArray) : strs (l ++ [s]) = strs l ++ [.string s] := by simp [strs]
theorem ints_snoc (l : List Int) (s : Int) : ints (l ++ [s]) = ints l ++ [.int .i64 s] := by simp [ints]

/-- Block L is the local copy of an entry. -/
structure Loc (w : World) (L : Nat) (x y z : Value) : Prop where
  c0 : w.cell? ⟨L, 0, none⟩ = some x
  c1 : w.cell? ⟨L, 1, none⟩ = some y
  c2 : w.cell? ⟨L, 2, none⟩ = some z
  f : ∀ o, w.frozen? ⟨L, o, none⟩ = false
  lt : L < w.heap.size

theorem Loc.of_heap {w : World} {L : Nat} {x y z : Value} (h : w.heap[L]? = some (.cells #[x, y, z] 67 (0, 0))) : Loc w L x y z :=
  ⟨by simp [World.cell?, h], by simp [World.cell?, h], by simp [World.cell?, h], fun o => by simp [World.frozen?, h], (Array.getElem?_eq_some_iff.1 h).1⟩

/-- A row is no map. -/
theorem nomap {w : World} {e : TypeId} {v : Value} {xs : List Value} {k : Nat} {l : List (ByteArray × Value)} (h : Sl w e v xs) (hk : v.ownBlock = some k) (hm : MapIs w k l) : False := by
  obtain ⟨cur, hc⟩ := h.block hk
  obtain ⟨es, c, h1, _⟩ := hm
  rw [hc] at h1
  cases h1

/-- What an append leaves of the local copy. -/
theorem loc_app {W w1 : World} {x y z u : Value} {t : TypeId} {row : Option Nat} (hg : ((W.alloc (.cells #[x, y, z] 67)).alloc (.cells #[u] t)).grownBy w1 row) (hne : ∀ k, row = some k → k < W.heap.size) :
    w1.heap[W.heap.size]? = some (.cells #[x, y, z] 67 (0, 0)) := by
  rw [hg.block W.heap.size (by simp; omega) (fun e => by have := hne _ e.symm; omega), Go.Deep.blk_alloc_lt _ _ _ (by simp), Go.Deep.blk_alloc_new]

end Go.Proofs.Qxb6000628a
