/-
  Slices of strings that come in, and the law's helpers that read them.
-/
import Derived.Test.Qxb6000628aRead
set_option linter.unusedVariables false
namespace Go.Proofs.Qxb6000628a
open Go.RowKit

/-- A slice of n strings f 0 .. f (n-1): what an index comes to, and what lies there. -/
structure StrIn (w : World) (X : Option Addr) (n c : Nat) (ad : Nat → Addr) (f : Nat → ByteArray) : Prop where
  idx : ∀ k, k < n → ∀ w', (Instr.indexAt 22 (.slice X n c) (.int .i64 (k : Int))).run Try.prog w' = .ok (.pointer (some (ad k))) w'
  cell : ∀ k, k < n → w.cell? (ad k) = some (.string (f k))
  size : ∀ k, (f k).size ≤ 9223372036854775807
  len : n ≤ 9223372036854775807

theorem StrIn.below {w w' : World} {X : Option Addr} {n c : Nat} {ad : Nat → Addr} {f : Nat → ByteArray} (h : StrIn w X n c ad f) (hb : Below w.heap.size w w') : StrIn w' X n c ad f :=
  ⟨h.idx, fun k hk => by rw [hb.cell (World.block_lt_of_cell? w _ (h.cell k hk))]; exact h.cell k hk, h.size, h.len⟩

theorem StrIn.of_cells {w w' : World} {X : Option Addr} {n c : Nat} {ad : Nat → Addr} {f : Nat → ByteArray} (h : StrIn w X n c ad f) (hb : ∀ k, k < n → w'.cell? (ad k) = w.cell? (ad k)) : StrIn w' X n c ad f :=
  ⟨h.idx, fun k hk => by rw [hb k hk]; exact h.cell k hk, h.size, h.len⟩

/-- A slice of strings that came in. -/
def IsStrs (w : World) (a : Option Addr) (len cap : Nat) (ss : List ByteArray) : Prop :=
  (a = none ∧ len = 0 ∧ cap = 0 ∧ ss = []) ∨
  ∃ x, a = some x ∧ len ≤ cap ∧ cap ≤ maxLen ∧ ss.length = cap ∧ (∀ i, i < ss.length → w.cell? (x.add i) = some (.string (ss.getD i ByteArray.empty))) ∧ ∀ s ∈ ss, s.size ≤ maxLen

theorem IsStrs.strIn {w : World} {a : Option Addr} {len cap : Nat} {ss : List ByteArray} (h : IsStrs w a len cap ss) : ∃ ad, StrIn w a len cap ad (fun i => ss.getD i ByteArray.empty) := by
  rcases h with ⟨rfl, rfl, rfl, rfl⟩ | ⟨x, rfl, hl, hm, hz, hcell, hws⟩
  · exact ⟨fun _ => ⟨0, 0, none⟩, fun k hk => by omega, fun k hk => by omega, fun k => by simp, by omega⟩
  · unfold maxLen at hm hws
    refine ⟨fun k => x.add k, fun k hk w' => ?_, fun k hk => hcell k (by omega), fun k => ?_, by omega⟩
    · have hc : (0 : Int) ≤ (k : Int) ∧ (k : Int) < (len : Int) := by omega
      simp [go_sem, hc, Try.underlying22]
    · show (ss.getD k ByteArray.empty).size ≤ _
      rw [List.getD_eq_getElem?_getD]
      by_cases hk : k < ss.length
      · rw [List.getElem?_eq_getElem hk]
        have := hws _ (List.getElem_mem hk)
        simp; omega
      · rw [List.getElem?_eq_none (by omega)]; simp

set_option maxHeartbeats 1000000 in
set_option maxRecDepth 100000 in
theorem strBytes_any (X : Option Addr) (n c : Nat) (ad : Nat → Addr) (f : Nat → ByteArray) (w : World) (h : StrIn w X n c ad f) :
    Calls Try.prog 10 #[.slice X n c] w fun e w' => (∃ t, e = .returned (.int .i64 t)) ∧ w = w' := by
  have hlen := h.len
  go_enter Try.func10, Try.ntmps10
  go_wp2_with fail
  go_loop [3, 4] (fun t i => ∃ k : Nat, k ≤ n ∧ i = .int .i64 k ∧ ∃ q : Int, t = .int .i64 q) (fun _ i => n - (intOf i).toNat)
  case atStart => exact ⟨0, by omega, rfl, _, rfl⟩
  case round =>
    obtain ⟨k, hk, rfl, q, rfl⟩ := hrel
    by_cases hlt : k < n
    · have hix := h.idx k hlt
      have hc := h.cell k hlt
      have hs := h.size k
      go_wp2_with fail
      · go_ret
        exact ⟨⟨_, rfl⟩, rfl⟩
      · go_round
        case rel => exact ⟨k + 1, by omega, by go_num, _, rfl⟩
        case measure => simp [intOf]; omega
    · go_wp2_with fail
      go_ret
      exact ⟨⟨_, rfl⟩, rfl⟩

/-- It returns a bool. -/
def IsB (e : Ending) : Prop := ∃ t, e = .returned (.bool t)
theorem IsB.mk (t : Bool) : IsB (.returned (.bool t)) := ⟨t, rfl⟩

set_option maxHeartbeats 2000000 in
set_option maxRecDepth 100000 in
theorem bytes9_any (X Y : Option Addr) (n c m d : Nat) (ad ad' : Nat → Addr) (f f' : Nat → ByteArray) (bo : Bool) (other : ByteArray) (w : World) (h : StrIn w X n c ad f) (h' : StrIn w Y m d ad' f') (ho : other.size ≤ 9223372036854775807) :
    Calls Try.prog 9 #[.slice X n c, .slice Y m d, .bool bo, .string other] w fun e w' => IsB e ∧ w = w' := by
  have hlen := h.len
  have hlen' := h'.len
  by_cases hn : 1048576 < n
  · go_enter Try.func9, Try.ntmps9
    go_wp2_with fail
    go_ret
    exact ⟨IsB.mk _, rfl⟩
  go_enter Try.func9, Try.ntmps9
  go_wp2_with fail
  go_loop [9, 10] (fun t i => ∃ k : Nat, k ≤ n ∧ i = .int .i64 k ∧ ∃ q : Int, 0 ≤ q ∧ q ≤ 1048576 ∧ t = .int .i64 q) (fun _ i => n - (intOf i).toNat)
  case atStart => exact ⟨0, by omega, rfl, _, by omega, by omega, rfl⟩
  case round =>
    obtain ⟨k, hk, rfl, q, hq0, hq1, rfl⟩ := hrel
    by_cases hlt : k < n
    · have hix := h.idx k hlt
      have hc := h.cell k hlt
      have hs := h.size k
      by_cases hs1 : 1048576 < (f k).size
      · go_wp2_with fail
        go_ret
        exact ⟨IsB.mk _, rfl⟩
      by_cases hs2 : 1048576 < q + (f k).size
      · go_wp2_with fail
        go_ret
        exact ⟨IsB.mk _, rfl⟩
      go_wp2_with fail
      go_round
      case rel => exact ⟨k + 1, by omega, by go_num, _, by omega, by omega, rfl⟩
      case measure => simp [intOf]; omega
    · by_cases hm1 : 1048576 < m
      · go_wp2_with fail
        go_ret
        exact ⟨IsB.mk _, rfl⟩
      have hd1 : decide ((1048576 : Int) < (m : Int)) = false := by simp; omega
      by_cases hm2 : 1048576 < q + m
      · go_wp2_with fail
        go_ret
        exact ⟨IsB.mk _, rfl⟩
      have hd2 : decide ((1048576 : Int) < q + (m : Int)) = false := by simp; omega
      have hd3 : decide ((k : Int) < (n : Int)) = false := by simp; omega
      go_wp2_with fail
      go_loop [9, 11] (fun t i => ∃ j : Nat, j ≤ m ∧ i = .int .i64 j ∧ ∃ q : Int, 0 ≤ q ∧ q ≤ 1048576 ∧ t = .int .i64 q) (fun _ i => m - (intOf i).toNat)
      case atStart => exact ⟨0, by omega, rfl, _, by omega, by omega, rfl⟩
      case round =>
        obtain ⟨j, hj, rfl, q', hq0', hq1', rfl⟩ := hrel
        by_cases hlt1 : j < m
        · have hix := h'.idx j hlt1
          have hc := h'.cell j hlt1
          have hs := h'.size j
          by_cases hs1 : 1048576 < (f' j).size
          · go_wp2_with fail
            go_ret
            exact ⟨IsB.mk _, rfl⟩
          by_cases hs2 : 1048576 < q' + (f' j).size
          · go_wp2_with fail
            go_ret
            exact ⟨IsB.mk _, rfl⟩
          go_wp2_with fail
          go_round
          case rel => exact ⟨j + 1, by omega, by go_num, _, by omega, by omega, rfl⟩
          case measure => simp [intOf]; omega
        · go_wp2_with fail
          all_goals (go_ret; exact ⟨IsB.mk _, rfl⟩)

/-- The copy while it is made. -/
structure CopyS (w wr : World) (n k : Nat) (f : Nat → ByteArray) : Prop where
  row : wr.rowIs w.heap.size 9 n (fun i => if i < k then .string (f i) else .string ByteArray.empty)
  size : wr.heap.size = w.heap.size + 1
  bel : Below w.heap.size w wr

theorem CopyS.start (w : World) (n : Nat) (f : Nat → ByteArray) : CopyS w (w.alloc (.cells (madeCells #[.string ByteArray.empty] n) 9)) n 0 f :=
  ⟨(World.rowIs_made w (.string ByteArray.empty) n 9).congr (fun i _ => by simp), by simp, (Below.refl _ _).alloc (Nat.le_refl _) _⟩

theorem CopyS.step {w wr : World} {n k : Nat} {f : Nat → ByteArray} (h : CopyS w wr n k f) : CopyS w (wr.setCell ⟨w.heap.size, k, none⟩ (.string (f k))) n (k + 1) f := by
  obtain ⟨h1, h2, h3⟩ := h
  refine ⟨(h1.set k _).congr ?_, by simp [h2], h3.setCell (Nat.le_refl _) _⟩
  intro i hi
  by_cases e : i = k
  · subst e; simp
  · by_cases e2 : i < k
    · have : i < k + 1 := by omega
      simp [e, e2, this]
    · have : ¬ i < k + 1 := by omega
      simp [e, e2, this]

/-- A row of one's own as a slice of strings. -/
theorem StrIn.own {w : World} {g n : Nat} {f : Nat → ByteArray} (h : w.rowIs g 9 n (fun i => .string (f i))) (hs : ∀ k, (f k).size ≤ 9223372036854775807) (hn : n ≤ 9223372036854775807) : StrIn w (some ⟨g, 0, none⟩) n n (fun k => ⟨g, k, none⟩) f :=
  ⟨fun k hk w' => by
    have hc : (0 : Int) ≤ (k : Int) ∧ (k : Int) < (n : Int) := by omega
    simp [go_sem, hc, Try.underlying22], fun k hk => h.cell hk, hs, hn⟩

set_option maxHeartbeats 1000000 in
set_option maxRecDepth 100000 in
theorem cloneS_any (X : Option Addr) (n c : Nat) (ad : Nat → Addr) (f : Nat → ByteArray) (w : World) (h : StrIn w X n c ad f) (hn : n ≤ 4096) (hX : X = none → n = 0 ∧ c = 0) :
    Calls Try.prog 12 #[.slice X n c] w fun e w' => ∃ X' c' ad', e = .returned (.slice X' n c') ∧ StrIn w' X' n c' ad' f ∧ Below w.heap.size w w' := by
  have hnil := fun w => Lib.run_eql_slice_nil (P := Try.prog) w 22 9 X n c 0 0 Try.underlying22
  have hmk := run_make_row' (P := Try.prog) 22 9 (.string ByteArray.empty) 16 Try.underlying22 Try.info9 rfl .i64 .i64 n (by omega) (by omega)
  cases hXn : X.isNone with
  | true =>
    obtain rfl : X = none := by simpa using hXn
    obtain ⟨rfl, rfl⟩ := hX rfl
    have Hh := hide h
    clear h hX hXn
    go_enter Try.func12, Try.ntmps12
    go_wp2_with fail
    go_ret
    exact ⟨none, 0, ad, rfl, Hh.out, Below.refl _ _⟩
  | false =>
    rw [hXn] at hnil
    clear hX hXn
    go_enter Try.func12, Try.ntmps12
    go_wp2_with fail
    go_loopw [4] (fun i wr => ∃ k : Nat, k ≤ n ∧ i = .int .i64 k ∧ CopyS w wr n k f) (fun i _ => n - (intOf i).toNat)
    case atStart => exact ⟨0, by omega, rfl, CopyS.start w n f⟩
    case round =>
      obtain ⟨k, hk, rfl, hp⟩ := hrel
      by_cases hlt : k < n
      · have hc0 : wr.cell? (ad k) = some (.string (f k)) := by
          rw [hp.bel.cell (World.block_lt_of_cell? w _ (h.cell k hlt))]
          exact h.cell k hlt
        have hixk := h.idx k hlt
        have hc1 : wr.cell? ⟨w.heap.size, k, none⟩ = some (.string ByteArray.empty) := by have := hp.row.cell hlt; simpa using this
        have hfz := hp.row.frozen k
        go_wp2_with fail
        go_roundw
        case rel => exact ⟨k + 1, by omega, by go_num, hp.step⟩
        case measure => simp [intOf]; omega
      · have hk' : k = n := by omega
        subst hk'
        go_wp2_with fail
        go_ret
        exact ⟨_, _, _, rfl, StrIn.own (hp.row.congr (fun i hi => by simp [hi])) h.size h.len, hp.bel⟩

end Go.Proofs.Qxb6000628a
