/-
  Slices of bytes that come in; their copies; the names zzName gives.
-/
import Derived.Test.Qxb6000628aSearch
import Derived.Laws.BytesArg
set_option linter.unusedVariables false
namespace Go.Proofs.Qxb6000628a
open Go.RowKit

/-- A slice of n bytes f 0 .. f (n-1): what an index comes to, and what lies there. -/
structure U8In (w : World) (X : Option Addr) (n c : Nat) (ad : Nat → Addr) (f : Nat → Nat) : Prop where
  idx : ∀ k, k < n → ∀ w', (Instr.indexAt 41 (.slice X n c) (.int .i64 (k : Int))).run Try.prog w' = .ok (.pointer (some (ad k))) w'
  cell : ∀ k, k < n → w.cell? (ad k) = some (.int .u8 (f k : Int))
  lt : ∀ k, f k < 256
  len : n ≤ 9223372036854775807

theorem U8In.below {w w' : World} {X : Option Addr} {n c : Nat} {ad : Nat → Addr} {f : Nat → Nat} (h : U8In w X n c ad f) (hb : Below w.heap.size w w') : U8In w' X n c ad f :=
  ⟨h.idx, fun k hk => by rw [hb.cell (World.block_lt_of_cell? w _ (h.cell k hk))]; exact h.cell k hk, h.lt, h.len⟩

/-- A slice of bytes that came in. -/
def IsU8 (w : World) (a : Option Addr) (len cap : Nat) (zs : List Int) : Prop :=
  (a = none ∧ len = 0 ∧ cap = 0 ∧ zs = []) ∨
  ∃ x, a = some x ∧ len ≤ cap ∧ cap ≤ maxLen ∧ zs.length = cap ∧ (∀ i, i < zs.length → w.cell? (x.add i) = some (.int .u8 (zs.getD i 0))) ∧ ∀ n ∈ zs, (Lit.int .u8 n).wf = true

theorem IsU8.in {w : World} {a : Option Addr} {len cap : Nat} {zs : List Int} (h : IsU8 w a len cap zs) : (∃ ad f, U8In w a len cap ad f) ∧ (a = none → len = 0 ∧ cap = 0) := by
  rcases h with ⟨rfl, rfl, rfl, rfl⟩ | ⟨x, rfl, h1, h2, h3, h4, h5⟩
  · exact ⟨⟨fun _ => ⟨0, 0, none⟩, fun _ => 0, ⟨fun k hk => by omega, fun k hk => by omega, fun _ => by omega, by omega⟩⟩, fun _ => ⟨rfl, rfl⟩⟩
  · have hz : ∀ k, k < len → 0 ≤ zs.getD k 0 ∧ zs.getD k 0 < 256 := by
      intro k hk
      have hm : zs.getD k 0 ∈ zs := by
        rw [List.getD_eq_getElem?_getD, List.getElem?_eq_getElem (by omega)]
        exact List.getElem_mem _
      have := h5 _ hm
      simp [Lit.wf, IntKind.min, IntKind.max, IntKind.signed, IntKind.bits, -List.getD_eq_getElem?_getD] at this
      omega
    refine ⟨⟨fun k => x.add k, fun k => if k < len then (zs.getD k 0).toNat else 0, ⟨fun k hk w' => ?_, fun k hk => ?_, fun k => ?_, by unfold maxLen at h2; omega⟩⟩, fun h => by cases h⟩
    · have hc : (0 : Int) ≤ (k : Int) ∧ (k : Int) < (len : Int) := by omega
      simp [go_sem, hc, Try.underlying41]
    · rw [h4 k (by omega), if_pos hk]
      have := hz k hk
      congr 2
      omega
    · show (if k < len then (zs.getD k 0).toNat else 0) < 256
      split
      · next hk => have := hz k hk; omega
      · omega

theorem Try.info5 : (Try.prog.info? 5).map (fun i => (i.zero, i.size, i.bytes)) = some (some (.int .u8 0), 1, 1) := by kernel_rfl

/-- The copy while it is made. -/
structure CopyU (w wr : World) (n k : Nat) (f : Nat → Nat) : Prop where
  row : wr.rowIs w.heap.size 5 n (fun i => if i < k then .int .u8 (f i : Int) else .int .u8 0)
  size : wr.heap.size = w.heap.size + 1
  bel : Below w.heap.size w wr

theorem CopyU.start (w : World) (n : Nat) (f : Nat → Nat) : CopyU w (w.alloc (.cells (madeCells #[.int .u8 0] n) 5)) n 0 f :=
  ⟨(World.rowIs_made w (.int .u8 0) n 5).congr (fun i _ => by simp), by simp, (Below.refl _ _).alloc (Nat.le_refl _) _⟩

theorem CopyU.step {w wr : World} {n k : Nat} {f : Nat → Nat} (h : CopyU w wr n k f) : CopyU w (wr.setCell ⟨w.heap.size, k, none⟩ (.int .u8 (f k : Int))) n (k + 1) f := by
  obtain ⟨h1, h2, h3⟩ := h
  refine ⟨(h1.set k _).congr ?_, by simp [h2], h3.setCell (Nat.le_refl _) _⟩
  intro i hi
  by_cases e : i = k
  · subst e; simp
  · by_cases e2 : i < k
    · have : i < k + 1 := by omega
      simp [e, e2, this]
    · have : ¬ i < k + 1 := by omega
      simp [e, e2, this]

theorem U8In.own {w : World} {g n : Nat} {f : Nat → Nat} (h : w.rowIs g 5 n (fun i => .int .u8 (f i : Int))) (hs : ∀ k, f k < 256) (hn : n ≤ 9223372036854775807) : U8In w (some ⟨g, 0, none⟩) n n (fun k => ⟨g, k, none⟩) f :=
  ⟨fun k hk w' => by
    have hc : (0 : Int) ≤ (k : Int) ∧ (k : Int) < (n : Int) := by omega
    simp [go_sem, hc, Try.underlying41], fun k hk => h.cell hk, hs, hn⟩

set_option maxHeartbeats 1000000 in
set_option maxRecDepth 100000 in
theorem clone23 (X : Option Addr) (n c : Nat) (ad : Nat → Addr) (f : Nat → Nat) (w : World) (h : U8In w X n c ad f) (hn : n ≤ 4096) (hX : X = none → n = 0 ∧ c = 0) :
    Calls Try.prog 23 #[.slice X n c] w fun e w' => ∃ X' c' ad', e = .returned (.slice X' n c') ∧ U8In w' X' n c' ad' f ∧ Below w.heap.size w w' := by
  have hnil := fun w => Lib.run_eql_slice_nil (P := Try.prog) w 41 5 X n c 0 0 Try.underlying41
  have hmk := run_make_row' (P := Try.prog) 41 5 (.int .u8 0) 1 Try.underlying41 Try.info5 rfl .i64 .i64 n (by omega) (by omega)
  cases hXn : X.isNone with
  | true =>
    obtain rfl : X = none := by simpa using hXn
    obtain ⟨rfl, rfl⟩ := hX rfl
    have Hh := hide h
    clear h hX hXn
    go_enter Try.func23, Try.ntmps23
    go_wp2_with fail
    go_ret
    exact ⟨none, 0, ad, rfl, Hh.out, Below.refl _ _⟩
  | false =>
    rw [hXn] at hnil
    clear hX hXn
    go_enter Try.func23, Try.ntmps23
    go_wp2_with fail
    go_loopw [4] (fun i wr => ∃ k : Nat, k ≤ n ∧ i = .int .i64 k ∧ CopyU w wr n k f) (fun i _ => n - (intOf i).toNat)
    case atStart => exact ⟨0, by omega, rfl, CopyU.start w n f⟩
    case round =>
      obtain ⟨k, hk, rfl, hp⟩ := hrel
      by_cases hlt : k < n
      · have hc0 : wr.cell? (ad k) = some (.int .u8 (f k : Int)) := by
          rw [hp.bel.cell (World.block_lt_of_cell? w _ (h.cell k hlt))]
          exact h.cell k hlt
        have hixk := h.idx k hlt
        have hc1 : wr.cell? ⟨w.heap.size, k, none⟩ = some (.int .u8 0) := by have := hp.row.cell hlt; simpa using this
        have hfz := hp.row.frozen k
        go_wp2_with fail
        go_roundw
        case rel => exact ⟨k + 1, by omega, by go_num, hp.step⟩
        case measure => simp [intOf]; omega
      · have hk' : k = n := by omega
        subst hk'
        go_wp2_with fail
        go_ret
        exact ⟨_, _, _, rfl, U8In.own (hp.row.congr (fun i hi => by simp [hi])) h.lt h.len, hp.bel⟩

set_option maxHeartbeats 2000000 in
set_option maxRecDepth 100000 in
theorem bytes31 (X Y Z : Option Addr) (n c m d l e : Nat) (w : World) (hn : n ≤ 9223372036854775807) (hm : m ≤ 9223372036854775807) (hl : l ≤ 9223372036854775807) :
    Calls Try.prog 31 #[.slice X n c, .slice Y m d, .slice Z l e] w fun e w' => IsB e ∧ w = w' := by
  by_cases h1 : 1048576 < n
  · go_enter Try.func31, Try.ntmps31
    go_wp2_with fail
    go_ret
    exact ⟨IsB.mk _, rfl⟩
  by_cases h2 : 1048576 < m
  · go_enter Try.func31, Try.ntmps31
    go_wp2_with fail
    go_ret
    exact ⟨IsB.mk _, rfl⟩
  by_cases h3 : 1048576 < n + m
  · have h3' : (1048576 : Int) < (n : Int) + (m : Int) := by omega
    go_enter Try.func31, Try.ntmps31
    go_wp2_with fail
    go_ret
    exact ⟨IsB.mk _, rfl⟩
  have h3' : ¬ (1048576 : Int) < (n : Int) + (m : Int) := by omega
  by_cases h4 : 1048576 < l
  · go_enter Try.func31, Try.ntmps31
    go_wp2_with fail
    go_ret
    exact ⟨IsB.mk _, rfl⟩
  by_cases h5 : 1048576 < n + m + l
  · have h5' : (1048576 : Int) < (n : Int) + (m : Int) + (l : Int) := by omega
    go_enter Try.func31, Try.ntmps31
    go_wp2_with fail
    go_ret
    exact ⟨IsB.mk _, rfl⟩
  have h5' : ¬ (1048576 : Int) < (n : Int) + (m : Int) + (l : Int) := by omega
  go_enter Try.func31, Try.ntmps31
  go_wp2_with fail
  go_ret
  exact ⟨IsB.mk _, rfl⟩

set_option maxHeartbeats 2000000 in
set_option maxRecDepth 100000 in
theorem bytes22 (X Y Z : Option Addr) (n c m d l e : Nat) (w : World) (hn : n ≤ 9223372036854775807) (hm : m ≤ 9223372036854775807) (hl : l ≤ 9223372036854775807) :
    Calls Try.prog 22 #[.slice X n c, .slice Y m d, .slice Z l e] w fun e w' => IsB e ∧ w = w' := by
  by_cases h1 : 1048576 < n
  · go_enter Try.func22, Try.ntmps22
    go_wp2_with fail
    go_ret
    exact ⟨IsB.mk _, rfl⟩
  by_cases h2 : 1048576 < m
  · go_enter Try.func22, Try.ntmps22
    go_wp2_with fail
    go_ret
    exact ⟨IsB.mk _, rfl⟩
  by_cases h3 : 1048576 < n + m
  · have h3' : (1048576 : Int) < (n : Int) + (m : Int) := by omega
    go_enter Try.func22, Try.ntmps22
    go_wp2_with fail
    go_ret
    exact ⟨IsB.mk _, rfl⟩
  have h3' : ¬ (1048576 : Int) < (n : Int) + (m : Int) := by omega
  by_cases h4 : 1048576 < l
  · go_enter Try.func22, Try.ntmps22
    go_wp2_with fail
    go_ret
    exact ⟨IsB.mk _, rfl⟩
  by_cases h5 : 1048576 < n + m + l
  · have h5' : (1048576 : Int) < (n : Int) + (m : Int) + (l : Int) := by omega
    go_enter Try.func22, Try.ntmps22
    go_wp2_with fail
    go_ret
    exact ⟨IsB.mk _, rfl⟩
  have h5' : ¬ (1048576 : Int) < (n : Int) + (m : Int) + (l : Int) := by omega
  go_enter Try.func22, Try.ntmps22
  go_wp2_with fail
  go_ret
  exact ⟨IsB.mk _, rfl⟩

/-- The name of number u. -/
def nums (u : Nat) : List Int := [114, (48 + (u : Int) / 100), (48 + (u : Int) / 10 % 10), (48 + (u : Int) % 10)]
def nme (u : Nat) : ByteArray := strOfNums (nums u)

theorem nme_inj {u v : Nat} (hu : u < 256) (hv : v < 256) (h : nme u = nme v) : u = v := by
  have h1 := congrArg (fun s => s.data.toList.map UInt8.toNat) h
  simp only [nme, strOfNums_data, nums, List.map_cons, List.map_nil] at h1
  simp at h1
  omega

set_option maxHeartbeats 2000000 in
set_option maxRecDepth 100000 in
theorem name30 (u : Nat) (hu : u < 256) (w : World) :
    Calls Try.prog 30 #[.int .i64 (u : Int)] w fun e w' => e = .returned (.string (nme u)) ∧ Below w.heap.size w w' ∧ w'.heap.size = w.heap.size + 1 := by
  have hmk : ∀ w : World, (Instr.makeSlice 41 (.int .i64 4) (.int .i64 4)).run Try.prog w = .ok (.slice (some ⟨w.heap.size, 0, none⟩) 4 4) (w.alloc (.cells (madeCells #[.int .u8 0] 4) 5)) := run_make_row' (P := Try.prog) 41 5 (.int .u8 0) 1 Try.underlying41 Try.info5 rfl .i64 .i64 4 (by omega) (by omega)
  have hrow := World.rowIs_made w (.int .u8 0) 4 5
  have hb := (Below.refl w.heap.size w).alloc (Nat.le_refl _) (.cells (madeCells #[.int .u8 0] 4) 5)
  have hsz : (w.alloc (.cells (madeCells #[.int .u8 0] 4) 5)).heap.size = w.heap.size + 1 := by simp
  go_enter Try.func30, Try.ntmps30
  go_upto_region 2 with fail
  generalize w.alloc (.cells (madeCells #[.int .u8 0] 4) 5) = w1 at *
  have c0 := hrow.cell (i := 0) (by omega)
  have f0 := hrow.frozen 0
  go_upto_region 3 with fail
  replace hrow := hrow.set 0 (.int .u8 114)
  replace hb := hb.setCell (p := ⟨w.heap.size, 0, none⟩) (Nat.le_refl _) (.int .u8 114)
  replace hsz : (w1.setCell ⟨w.heap.size, 0, none⟩ (.int .u8 114)).heap.size = w.heap.size + 1 := by simpa using hsz
  generalize w1.setCell ⟨w.heap.size, 0, none⟩ (.int .u8 114) = w2 at *
  clear f0 c0
  have c1 := hrow.cell (i := 1) (by omega)
  have f1 := hrow.frozen 1
  have hc1 : w2.cell? ⟨w.heap.size, 1, none⟩ = some (.int .u8 0) := c1
  clear c1
  go_upto_region 4 with fail
  replace hrow := hrow.set 1 (.int .u8 (48 + (u : Int) / 100))
  replace hb := hb.setCell (p := ⟨w.heap.size, 1, none⟩) (Nat.le_refl _) (.int .u8 (48 + (u : Int) / 100))
  replace hsz : (w2.setCell ⟨w.heap.size, 1, none⟩ (.int .u8 (48 + (u : Int) / 100))).heap.size = w.heap.size + 1 := by simpa using hsz
  generalize w2.setCell ⟨w.heap.size, 1, none⟩ (.int .u8 (48 + (u : Int) / 100)) = w3 at *
  clear f1 hc1
  have c2 := hrow.cell (i := 2) (by omega)
  have f2 := hrow.frozen 2
  have hc2 : w3.cell? ⟨w.heap.size, 2, none⟩ = some (.int .u8 0) := c2
  clear c2
  go_upto_region 5 with fail
  replace hrow := hrow.set 2 (.int .u8 (48 + (u : Int) / 10 % 10))
  replace hb := hb.setCell (p := ⟨w.heap.size, 2, none⟩) (Nat.le_refl _) (.int .u8 (48 + (u : Int) / 10 % 10))
  replace hsz : (w3.setCell ⟨w.heap.size, 2, none⟩ (.int .u8 (48 + (u : Int) / 10 % 10))).heap.size = w.heap.size + 1 := by simpa using hsz
  generalize w3.setCell ⟨w.heap.size, 2, none⟩ (.int .u8 (48 + (u : Int) / 10 % 10)) = w4 at *
  clear f2 hc2
  have c3 := hrow.cell (i := 3) (by omega)
  have f3 := hrow.frozen 3
  have hc3 : w4.cell? ⟨w.heap.size, 3, none⟩ = some (.int .u8 0) := c3
  clear c3
  go_upto_region 6 with fail
  replace hrow := hrow.set 3 (.int .u8 (48 + (u : Int) % 10))
  replace hb := hb.setCell (p := ⟨w.heap.size, 3, none⟩) (Nat.le_refl _) (.int .u8 (48 + (u : Int) % 10))
  replace hsz : (w4.setCell ⟨w.heap.size, 3, none⟩ (.int .u8 (48 + (u : Int) % 10))).heap.size = w.heap.size + 1 := by simpa using hsz
  generalize w4.setCell ⟨w.heap.size, 3, none⟩ (.int .u8 (48 + (u : Int) % 10)) = w5 at *
  clear f3 hc3
  have hconv := run_convert_bytes_arg (P := Try.prog) w5 41 5 Try.underlying41 Try.underlying5 w.heap.size 0 4 4 (nums u) rfl (fun i hi => by
    rw [Nat.zero_add, hrow.cell hi]
    match i, hi with
    | 0, _ => rfl
    | 1, _ => rfl
    | 2, _ => rfl
    | 3, _ => rfl) 9 Try.underlying9
  go_wp2_with fail
  go_ret
  exact ⟨rfl, hb, hsz⟩

end Go.Proofs.Qxb6000628a
