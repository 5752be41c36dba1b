/-
  Contracts of the leaf functions of the tally laws.
-/
import Derived.Test.Qxb6002450aMem
import Derived.Deep.LoopGhost
import Derived.Deep.Light
import Derived.Deep.QuietTactic
import Derived.BigQuiet
import Derived.Deep.RegionHeld3
import Derived.ShutString
import Derived.OpenShut
namespace Go.Proofs.Qxb6002450a
open Go.RowKit

theorem Try.info5 : (Try.prog.info? 5).map (fun i => (i.zero, i.size, i.bytes)) = some (some (.int .u8 0), 1, 1) := by kernel_rfl
theorem Try.info30 : (Try.prog.info? 30).map (fun i => (i.zero, i.size, i.bytes)) = some (some (.pointer none), 1, 8) := by kernel_rfl

theorem newSection_any (w : World) :
    Calls Try.prog 18 #[] w fun e w' => e = .returned (.pointer (some ⟨w.heap.size, 0, none⟩)) ∧ w' = w.alloc (.cells #[.pointer none, .int .u64 0, .int .u64 0] 50) := by
  go_enter Try.func18, Try.ntmps18
  go_wp2
  go_ret
  exact ⟨rfl, rfl⟩

theorem link_any (s t : Option Addr) (w : World) :
    Calls Try.prog 19 #[.pointer s, .pointer t] w fun e w' => e = .returned (.pointer (some ⟨w.heap.size, 0, none⟩)) ∧ w' = w.alloc (.cells #[.pointer s, .pointer t] 42) := by
  go_enter Try.func19, Try.ntmps19
  go_wp2
  go_ret
  exact ⟨rfl, rfl⟩

theorem sectionOf_any (b : Nat) (s : Option Addr) (w : World) (h : w.cell? ⟨b, 0, none⟩ = some (.pointer s)) :
    Calls Try.prog 10 #[.pointer (some ⟨b, 0, none⟩)] w fun e w' => e = .returned (.pointer s) ∧ w' = w := by
  go_enter Try.func10, Try.ntmps10
  go_wp2
  go_ret
  exact ⟨rfl, rfl⟩

theorem next_any (b : Nat) (r : Option Addr) (w : World) (h : w.cell? ⟨b, 1, none⟩ = some (.pointer r)) :
    Calls Try.prog 11 #[.pointer (some ⟨b, 0, none⟩)] w fun e w' => e = .returned (.pointer r) ∧ w' = w := by
  go_enter Try.func11, Try.ntmps11
  go_wp2
  go_ret
  exact ⟨rfl, rfl⟩

/-- What an index into such a slice comes to. -/
theorem Idx.at {w : World} {a : Option Addr} {n c g : Nat} {f : Nat → Nat} (h : Idx w a n g f) {k : Nat} (hk : k < n) (w' : World) :
    (Instr.indexAt 22 (.slice a n c) (.int .i64 (k : Int))).run Try.prog w' = .ok (.pointer (some ⟨g, k, none⟩)) w' := by
  obtain ⟨rfl, _⟩ := h.row (by omega)
  have hc : (0 : Int) ≤ (k : Int) ∧ (k : Int) < (n : Int) := by omega
  simp [go_sem, hc, Try.underlying22]

theorem Idx.cell {w : World} {a : Option Addr} {n g : Nat} {f : Nat → Nat} (h : Idx w a n g f) {k : Nat} (hk : k < n) : w.cell? ⟨g, k, none⟩ = some (.int .u8 (f k : Int)) :=
  (h.row (by omega)).2.cell hk

set_option maxHeartbeats 400000 in
set_option maxRecDepth 100000 in
theorem pool_any (w : World) :
    Calls Try.prog 7 #[] w fun e w' => e = .returned (.slice (some ⟨w.heap.size, 0, none⟩) 256 256) ∧ Pool w' w.heap.size (fun _ => 0) (fun _ => 0) ∧ w'.heap.size = w.heap.size + 257 ∧ Below w.heap.size w w' := by
  have hmk : ∀ w, (Instr.makeSlice 25 (.int .i64 256) (.int .i64 256)).run Try.prog w = .ok (.slice (some ⟨w.heap.size, 0, none⟩) 256 256) (w.alloc (.cells (madeCells #[.pointer none] 256) 30)) :=
    fun w => run_make_row' (P := Try.prog) 25 30 (.pointer none) 8 Try.underlying25 Try.info30 rfl .i64 .i64 256 (by omega) (by omega) w
  go_enter Try.func7, Try.ntmps7
  go_wp2
  go_loopw [2] (fun i wr => ∃ k : Nat, k ≤ 256 ∧ i = .int .i64 k ∧ PoolTo w wr k) (fun i _ => 256 - (intOf i).toNat)
  case atStart => exact ⟨0, by omega, rfl, PoolTo.start w⟩
  case round =>
    obtain ⟨k, hk, rfl, hp⟩ := hrel
    by_cases hlt : k < 256
    · have hc : wr.cell? ⟨w.heap.size, k, none⟩ = some (.pointer none) := by have := hp.top.cell hlt; simpa using this
      have hfz := hp.top.frozen k
      have hsz' : w.heap.size < wr.heap.size := by have := hp.size; omega
      go_wp2_with (go_at_call 18; refine (newSection_any _).mono ?_; rintro e w' ⟨rfl, rfl⟩)
      go_roundw
      case rel => exact ⟨k + 1, by omega, by go_num, hp.step⟩
      case measure => simp [intOf]; omega
    · have hk' : k = 256 := by omega
      subst hk'
      go_wp2_with fail
      go_ret
      exact ⟨rfl, hp.done, by have := hp.size; omega, hp.bel⟩

/-- WHAT THE WALK IS TOLD OF A SLICE OF BYTES THAT CAME IN (as the shell has it). -/
def IsRow (k : IntKind) (w : World) (a : Option Addr) (len cap : Nat) (zs : List Int) : Prop :=
  (a = none ∧ len = 0 ∧ cap = 0 ∧ zs = []) ∨
  ∃ x, a = some x ∧ len ≤ cap ∧ cap ≤ maxLen ∧ zs.length = cap ∧ (∀ i, i < zs.length → w.cell? (x.add i) = some (.int k (zs.getD i 0))) ∧ ∀ n ∈ zs, (Lit.int k n).wf = true

/-- The bytes as numbers. -/
def byteOf (zs : List Int) (i : Nat) : Nat := (zs.getD i 0).toNat

theorem byteOf_spec {zs : List Int} (hw : ∀ n ∈ zs, (Lit.int .u8 n).wf = true) (i : Nat) : byteOf zs i < 256 ∧ ((byteOf zs i : Nat) : Int) = zs.getD i 0 := by
  unfold byteOf
  rw [List.getD_eq_getElem?_getD]
  by_cases h : i < zs.length
  · have hb := bounds_u8 (hw (zs[i]) (List.getElem_mem h))
    simp [h]; omega
  · simp [h]

theorem wf_nil : ∀ n ∈ ([] : List Int), (Lit.int .u8 n).wf = true := fun n h => by cases h

/-- The copy while it is made. -/
structure CopyTo (w wr : World) (n k : Nat) (zs : List Int) : Prop where
  row : wr.rowIs w.heap.size 5 n (fun i => if i < k then .int .u8 (zs.getD i 0) else .int .u8 0)
  size : wr.heap.size = w.heap.size + 1
  bel : Below w.heap.size w wr

theorem CopyTo.start (w : World) (n : Nat) (zs : List Int) : CopyTo w (w.alloc (.cells (madeCells #[.int .u8 0] n) 5)) n 0 zs :=
  ⟨(World.rowIs_made w (.int .u8 0) n 5).congr (fun i _ => by simp), by simp, (Below.refl _ _).alloc (Nat.le_refl _) _⟩

theorem CopyTo.step {w wr : World} {n k : Nat} {zs : List Int} (h : CopyTo w wr n k zs) {v : Int} (hv : v = zs.getD k 0) : CopyTo w (wr.setCell ⟨w.heap.size, k, none⟩ (.int .u8 v)) n (k + 1) zs := by
  obtain ⟨h1, h2, h3⟩ := h
  refine ⟨(h1.set k _).congr ?_, by simp [h2], h3.setCell (Nat.le_refl _) _⟩
  intro i hi
  by_cases e : i = k
  · subst e; simp [hv]
  · by_cases e2 : i < k
    · have : i < k + 1 := by omega
      simp [e, e2, this]
    · have : ¬ i < k + 1 := by omega
      simp [e, e2, this]

theorem CopyTo.idx {w wr : World} {n : Nat} {zs : List Int} (h : CopyTo w wr n n zs) (hn : n ≤ 65536) (hw : ∀ n ∈ zs, (Lit.int .u8 n).wf = true) : Idx wr (some ⟨w.heap.size, 0, none⟩) n w.heap.size (byteOf zs) :=
  ⟨hn, fun i => (byteOf_spec hw i).1, fun _ => ⟨rfl, h.row.congr (fun i hi => by simp [hi, (byteOf_spec hw i).2])⟩⟩

set_option maxHeartbeats 400000 in
set_option maxRecDepth 100000 in
theorem clone_any (a : Option Addr) (len cap : Nat) (zs : List Int) (w : World) (h : IsRow .u8 w a len cap zs) (hlen : len ≤ 65536) :
    Calls Try.prog 6 #[.slice a len cap] w fun e w' => ∃ a' c', e = .returned (.slice a' len c') ∧ Idx w' a' len w.heap.size (byteOf zs) ∧ Below w.heap.size w w' ∧ w'.heap.size ≤ w.heap.size + 1 ∧ (0 < len → w.heap.size < w'.heap.size) := by
  have hnil := fun w => Lib.run_eql_slice_nil (P := Try.prog) w 22 5 a len cap 0 0 Try.underlying22
  have hmk := run_make_row' (P := Try.prog) 22 5 (.int .u8 0) 1 Try.underlying22 Try.info5 rfl .i64 .i64 len (by omega) (by omega)
  rcases h with ⟨rfl, rfl, rfl, rfl⟩ | ⟨x, rfl, hl, hm, hz, hcell, hwz⟩
  · go_enter Try.func6, Try.ntmps6
    go_wp2
    go_ret
    exact ⟨none, 0, rfl, ⟨by omega, fun i => (byteOf_spec wf_nil i).1, fun h => by omega⟩, Below.refl _ _, by omega, fun h => by omega⟩
  · unfold maxLen at hm
    have hix : ∀ k, k < len → ∀ w', (Instr.indexAt 22 (.slice (some x) len cap) (.int .i64 (k : Int))).run Try.prog w' = .ok (.pointer (some (x.add k))) w' := fun k hk w' => by
      have hc : (0 : Int) ≤ (k : Int) ∧ (k : Int) < (len : Int) := by omega
      simp [go_sem, hc, Try.underlying22]
    obtain ⟨X, hX⟩ : ∃ X, X = some x := ⟨_, rfl⟩
    rw [← hX]
    rw [← hX] at hix
    have hnone : X.isNone = false := by rw [hX]; rfl
    rw [← hX] at hnil
    clear hX
    rw [hnone] at hnil
    go_enter Try.func6, Try.ntmps6
    go_wp2
    go_loopw [4] (fun i wr => ∃ k : Nat, k ≤ len ∧ i = .int .i64 k ∧ CopyTo w wr len k zs) (fun i _ => len - (intOf i).toNat)
    case atStart => exact ⟨0, by omega, rfl, CopyTo.start w len zs⟩
    case round =>
      obtain ⟨k, hk, rfl, hp⟩ := hrel
      by_cases hlt : k < len
      · have hc0 : wr.cell? (x.add k) = some (.int .u8 (zs.getD k 0)) := by
          rw [hp.bel.cell (World.block_lt_of_cell? w _ (hcell k (by omega)))]
          exact hcell k (by omega)
        have hixk := hix k hlt
        have hc1 : wr.cell? ⟨w.heap.size, k, none⟩ = some (.int .u8 0) := by have := hp.row.cell hlt; simpa using this
        have hfz := hp.row.frozen k
        have Hix : Hid _ := hix
        clear hix
        go_wp2
        go_roundw
        case rel => exact ⟨k + 1, by omega, by go_num, hp.step rfl⟩
        case measure => simp [intOf]; omega
      · have hk' : k = len := by omega
        subst hk'
        go_wp2
        go_ret
        exact ⟨_, _, rfl, hp.idx hlen hwz, hp.bel, by have := hp.size; omega, fun _ => by have := hp.size; omega⟩

end Go.Proofs.Qxb6002450a
