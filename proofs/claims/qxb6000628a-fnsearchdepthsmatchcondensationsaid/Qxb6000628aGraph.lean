/-
  The role graph in memory, and its small readers.
-/
import Derived.Test.Qxb6000628aSlices
import Derived.Deep.LoopGhost
import Derived.Deep.Light
import Derived.Deep.QuietTactic
import Derived.BigQuiet
import Derived.Deep.RegionHeld3
import Derived.ShutString
import Derived.OpenShut
namespace Go.Proofs.Qxb6000628a
open Go.RowKit

theorem Try.info9 : (Try.prog.info? 9).map (fun i => (i.zero, i.size, i.bytes)) = some (some (.string ByteArray.empty), 1, 16) := by kernel_rfl
theorem Try.info3 : (Try.prog.info? 3).map (fun i => (i.zero, i.size, i.bytes)) = some (some (.int .i64 0), 1, 8) := by kernel_rfl
theorem zero67 (w : World) : (zeroValue 67).run Try.prog w = .ok (.agg #[.slice none 0 0, .int .i64 0, .pointer none]) w := by kernel_rfl
theorem zero3 (w : World) : (zeroValue 3).run Try.prog w = .ok (.int .i64 0) w := by kernel_rfl

def strs (l : List ByteArray) : List Value := l.map .string
def ints (l : List Int) : List Value := l.map (.int .i64 ·)

/-- One name's links: its roles and their places. -/
structure Ent where
  key : ByteArray
  roles : List ByteArray
  pls : List Int

/-- Blocks outside F, of those that were there, are as they were. -/
structure Fr (F : Nat → Prop) (w w' : World) : Prop where
  os : w'.os = w.os
  tape : w'.tape = w.tape
  output : w'.output = w.output
  size : w.heap.size ≤ w'.heap.size
  block : ∀ k, k < w.heap.size → ¬ F k → w'.heap[k]? = w.heap[k]?

theorem Fr.refl (F : Nat → Prop) (w : World) : Fr F w w := ⟨rfl, rfl, rfl, Nat.le_refl _, fun _ _ _ => rfl⟩
theorem Fr.trans {F : Nat → Prop} {a b c : World} (h : Fr F a b) (k : Fr F b c) : Fr F a c :=
  ⟨k.os.trans h.os, k.tape.trans h.tape, k.output.trans h.output, Nat.le_trans h.size k.size, fun i hi hf => (k.block i (Nat.lt_of_lt_of_le hi h.size) hf).trans (h.block i hi hf)⟩
theorem Fr.mono {F G : Nat → Prop} {a b : World} (h : Fr F a b) (hf : ∀ k, k < a.heap.size → F k → G k) : Fr G a b :=
  ⟨h.os, h.tape, h.output, h.size, fun i hi hg => h.block i hi (fun f => hg (hf i hi f))⟩
theorem Fr.drewN {F : Nat → Prop} {a b : World} (h : Fr F a b) (n : Nat) : Fr F a (b.drewN n) := ⟨h.os, h.tape, h.output, h.size, h.block⟩
theorem Fr.drew {F : Nat → Prop} {a b : World} (h : Fr F a b) : Fr F a b.drew := ⟨h.os, h.tape, h.output, h.size, h.block⟩
theorem Fr.alloc {F : Nat → Prop} {a b : World} (h : Fr F a b) (o : Obj) : Fr F a (b.alloc o) :=
  h.trans ⟨rfl, rfl, rfl, by simp, fun k hk _ => Go.Deep.blk_alloc_lt _ _ _ hk⟩
theorem Fr.setCell {F : Nat → Prop} {a b : World} (h : Fr F a b) {p : Addr} (hp : p.block < a.heap.size → F p.block) (v : Value) : Fr F a (b.setCell p v) :=
  ⟨h.os, h.tape, h.output, by simpa [World.setCell] using h.size, fun k hk hf => (Below.heap_setCell _ p _ k (fun e => by subst e; exact hf (hp hk))).trans (h.block k hk hf)⟩
theorem Fr.grown {F : Nat → Prop} {a b c : World} {row : Option Nat} (h : Fr F a b) (hg : b.grownBy c row) (hr : ∀ k, row = some k → k < a.heap.size → F k) : Fr F a c :=
  ⟨hg.os.trans h.os, hg.tape.trans h.tape, hg.output.trans h.output, Nat.le_trans h.size hg.size, fun k hk hf =>
    (hg.block k (Nat.lt_of_lt_of_le hk h.size) (fun e => hf (hr k e.symm hk))).trans (h.block k hk hf)⟩
theorem Fr.only {F : Nat → Prop} {a b c : World} {r : Nat} (h : Fr F a b) (hg : Only r b c) (hr : r < a.heap.size → F r) : Fr F a c :=
  ⟨hg.os.trans h.os, hg.tape.trans h.tape, hg.output.trans h.output, by rw [hg.size]; exact h.size, fun k hk hf =>
    (hg.block k (fun e => hf (e ▸ hr (e ▸ hk)))).trans (h.block k hk hf)⟩
theorem Fr.below {F : Nat → Prop} {a b : World} (h : Fr F a b) {B : Nat} (hB : B ≤ a.heap.size) (hf : ∀ k, k < B → ¬ F k) : Below B a b :=
  ⟨h.os, h.tape, h.output, h.size, fun k hk => h.block k (by omega) (hf k hk)⟩
theorem Fr.of_below {B : Nat} {a b : World} (h : Below B a b) : Fr (fun k => B ≤ k) a b :=
  ⟨h.os, h.tape, h.output, h.size, fun k _ hf => h.block k (by omega)⟩

/-- What hangs at 'more'. -/
def MoreAt (w : World) (own : Nat → Prop) (placed : Bool) (e : Ent) : Option Addr → Prop
  | none => e.roles.length ≤ 8 ∧ (placed = true → e.roles.length = 1)
  | some a => ∃ m pv rm, a = ⟨m, 0, none⟩ ∧ own m ∧ w.heap[m]? = some (.cells #[pv, .map rm] 71 (0, 0)) ∧ Sl w 3 pv (if placed then ints (e.pls.drop 1) else []) ∧ (∀ k, pv.ownBlock = some k → own k) ∧
      (e.roles.length ≤ 8 → rm = none) ∧ (8 < e.roles.length → ∃ r, rm = some r ∧ own r ∧ MapIs w r (e.roles.zip (ints e.pls))) ∧ (placed = false → 8 < e.roles.length) ∧ (placed = true → 2 ≤ e.roles.length)

/-- An entry of the graph's map. -/
structure EntAt (w : World) (own : Nat → Prop) (placed : Bool) (e : Ent) (rv : Value) (at0 : Int) (mo : Option Addr) : Prop where
  roles : Sl w 9 rv (strs e.roles)
  rown : ∀ k, rv.ownBlock = some k → own k
  pos : 0 < e.roles.length
  len : e.pls.length = e.roles.length
  first : e.pls[0]? = some at0
  yes : placed = true → at0 ≠ -1
  no : placed = false → ∀ p ∈ e.pls, p = -1
  more : MoreAt w own placed e mo

theorem MoreAt.mono {w w' : World} {own own' : Nat → Prop} {placed : Bool} {e : Ent} {mo : Option Addr} (h : MoreAt w own placed e mo) (hb : ∀ k, own k → w'.heap[k]? = w.heap[k]?) (ho : ∀ k, own k → own' k) : MoreAt w' own' placed e mo := by
  cases mo with
  | none => exact h
  | some a =>
    obtain ⟨m, pv, rm, h1, h2, h3, h4, h5, h6, h7, h8⟩ := h
    refine ⟨m, pv, rm, h1, ho m h2, (hb m h2).trans h3, h4.of_block (fun k hk => hb k (h5 k hk)), fun k hk => ho k (h5 k hk), h6, fun h => ?_, h8⟩
    obtain ⟨r, r1, r2, r3⟩ := h7 h
    exact ⟨r, r1, ho r r2, r3.of_block (hb r r2)⟩

theorem EntAt.mono {w w' : World} {own own' : Nat → Prop} {placed : Bool} {e : Ent} {rv : Value} {at0 : Int} {mo : Option Addr} (h : EntAt w own placed e rv at0 mo) (hb : ∀ k, own k → w'.heap[k]? = w.heap[k]?) (ho : ∀ k, own k → own' k) :
    EntAt w' own' placed e rv at0 mo :=
  ⟨h.roles.of_block (fun k hk => hb k (h.rown k hk)), fun k hk => ho k (h.rown k hk), h.pos, h.len, h.first, h.yes, h.no, h.more.mono hb ho⟩

/-- An entry as a value. -/
def entV (rv : Value) (at0 : Int) (mo : Option Addr) : Value := .agg #[rv, .int .i64 at0, .pointer mo]

/-! ### many, placeAt -/
theorem many_nil (rv : Value) (at0 : Int) (w : World) :
    Calls Try.prog 45 #[.agg #[rv, .int .i64 at0, .pointer none]] w fun e w' => e = .returned (.bool false) ∧ w' = w.alloc (.cells #[rv, .int .i64 at0, .pointer none] 67) := by
  go_enter Try.func45, Try.ntmps45
  go_wp2
  go_ret
  exact ⟨rfl, rfl⟩

theorem many_some (rv : Value) (at0 : Int) (m : Nat) (rm : Option Nat) (w : World) (h : w.cell? ⟨m, 1, none⟩ = some (.map rm)) :
    Calls Try.prog 45 #[.agg #[rv, .int .i64 at0, .pointer (some ⟨m, 0, none⟩)]] w fun e w' => e = .returned (.bool rm.isSome) ∧ w' = w.alloc (.cells #[rv, .int .i64 at0, .pointer (some ⟨m, 0, none⟩)] 67) := by
  have hlt : m < w.heap.size := World.block_lt_of_cell? w _ h
  have hm := fun w => run_neq_map_nil (P := Try.prog) w 69 9 3 rm Try.underlying69
  go_enter Try.func45, Try.ntmps45
  go_wp2
  go_ret
  exact ⟨rfl, rfl⟩

theorem placeAt_zero (L : Nat) (at0 : Int) (w : World) (h : w.cell? ⟨L, 1, none⟩ = some (.int .i64 at0)) :
    Calls Try.prog 46 #[.pointer (some ⟨L, 0, none⟩), .int .i64 0] w fun e w' => e = .returned (.int .i64 at0) ∧ w' = w := by
  go_enter Try.func46, Try.ntmps46
  go_wp2
  go_ret
  exact ⟨rfl, rfl⟩

theorem placeAt_un (L : Nat) (i : Int) (w : World) (h : w.cell? ⟨L, 1, none⟩ = some (.int .i64 (-1))) :
    Calls Try.prog 46 #[.pointer (some ⟨L, 0, none⟩), .int .i64 i] w fun e w' => e = .returned (.int .i64 (-1)) ∧ w' = w := by
  by_cases hi : i = 0
  · subst hi
    exact placeAt_zero L (-1) w h
  · have hi' : (i == 0) = false := by simpa using hi
    go_enter Try.func46, Try.ntmps46
    go_wp2
    go_ret
    exact ⟨rfl, rfl⟩

theorem placeAt_more (L m b o cap n i : Nat) (at0 p : Int) (w : World) (h : w.cell? ⟨L, 1, none⟩ = some (.int .i64 at0)) (h2 : w.cell? ⟨L, 2, none⟩ = some (.pointer (some ⟨m, 0, none⟩))) (h3 : w.cell? ⟨m, 0, none⟩ = some (.slice (some ⟨b, o, none⟩) n cap))
    (hat : at0 ≠ -1) (hi : i < n) (hn : n ≤ 1000000) (h4 : w.cell? ⟨b, o + i, none⟩ = some (.int .i64 p)) :
    Calls Try.prog 46 #[.pointer (some ⟨L, 0, none⟩), .int .i64 ((i : Int) + 1)] w fun e w' => e = .returned (.int .i64 p) ∧ w' = w := by
  have e1 : (((i : Int) + 1) == 0) = false := by rw [beq_eq_false_iff_ne]; omega
  have e2 : (at0 == -1) = false := by rw [beq_eq_false_iff_ne]; exact hat
  go_enter Try.func46, Try.ntmps46
  go_wp2
  go_ret
  exact ⟨rfl, rfl⟩

theorem field67 (x y z : Value) (w : World) : (Instr.field 67 (.agg #[x, y, z]) 0).run Try.prog w = .ok x w := by kernel_rfl

set_option maxRecDepth 100000 in
theorem rolesOf_any (g : Nat) (l : List (ByteArray × Value)) (s : ByteArray) (rv : Value) (at0 : Int) (mo : Option Addr) (w : World) (h : MapIs w g l) (hs : mget l s = some (entV rv at0 mo)) :
    Calls Try.prog 44 #[.map (some g), .string s] w fun e w' => e = .returned rv ∧ w' = w := by
  have hl := run_look Try.underlying28 Try.underlying9 h hs false
  simp only [Bool.false_eq_true, if_false, entV] at hl
  clear h hs
  have hf := field67
  go_enter Try.func44, Try.ntmps44
  go_wp2
  go_ret
  exact ⟨rfl, rfl⟩

set_option maxRecDepth 100000 in
theorem rolesOf_none (g : Nat) (l : List (ByteArray × Value)) (s : ByteArray) (w : World) (h : MapIs w g l) (hs : mget l s = none) :
    Calls Try.prog 44 #[.map (some g), .string s] w fun e w' => e = .returned (.slice none 0 0) ∧ w' = w := by
  have hl := run_look_none Try.underlying28 Try.underlying9 h hs (zero67 w) false
  simp only [Bool.false_eq_true, if_false] at hl
  clear h hs
  have hf := field67
  go_enter Try.func44, Try.ntmps44
  go_wp2
  go_ret
  exact ⟨rfl, rfl⟩

end Go.Proofs.Qxb6000628a
