/-
  Contracts: the counters (sync/atomic), start, complete.
-/
import Derived.Test.Qxb6002450aWalksB
import Derived.Laws.LoneSync
namespace Go.Proofs.Qxb6002450a
open Go.RowKit

theorem call_add {a : Addr} {n : Int} {w : World} (hc : w.cell? a = some (.int .u64 n)) (hz : w.frozen? a = false) (h0 : 0 ≤ n) (h1 : n < 4611686018427387904) :
    (callFunc 26 #[.pointer (some a), .int .u64 1]).run Try.prog w = .ok (.value (.int .u64 (n + 1))) (w.setCell a (.int .u64 (n + 1))) :=
  run_call_add Try.func26 (by kernel_rfl) (by kernel_rfl) (by kernel_rfl) .u64 (by kernel_rfl) hc hz (by
    have e : IntKind.u64.wrap (n + 1) = n + 1 := by simp [IntKind.wrap, IntKind.bits, IntKind.signed]; omega
    simp [Op.intArith, e])

theorem call_load {a : Addr} {n : Int} {w : World} (hc : w.cell? a = some (.int .u64 n)) :
    (callFunc 25 #[.pointer (some a)]).run Try.prog w = .ok (.value (.int .u64 n)) w :=
  run_call_load Try.func25 (by kernel_rfl) (by kernel_rfl) (by kernel_rfl) .u64 (by kernel_rfl) hc

theorem add_any (b o : Nat) (n : Int) (w : World) (h : w.cell? ⟨b, o, none⟩ = some (.int .u64 n)) (hf : w.frozen? ⟨b, o, none⟩ = false) (h0 : 0 ≤ n) (h1 : n < 4611686018427387904) :
    Calls Try.prog 24 #[.pointer (some ⟨b, o, none⟩), .int .u64 1] w fun e w' => e = .returned (.int .u64 (n + 1)) ∧ w' = w.setCell ⟨b, o, none⟩ (.int .u64 (n + 1)) := by
  have hk := call_add h hf h0 h1
  go_enter Try.func24, Try.ntmps24
  go_wp2
  go_ret
  exact ⟨rfl, rfl⟩

theorem load_any (b o : Nat) (n : Int) (w : World) (h : w.cell? ⟨b, o, none⟩ = some (.int .u64 n)) :
    Calls Try.prog 23 #[.pointer (some ⟨b, o, none⟩)] w fun e w' => e = .returned (.int .u64 n) ∧ w' = w := by
  have hk := call_load h
  go_enter Try.func23, Try.ntmps23
  go_wp2
  go_ret
  exact ⟨rfl, rfl⟩

theorem starts_any (b : Nat) (n : Int) (w : World) (h : w.cell? ⟨b, 1, none⟩ = some (.int .u64 n)) :
    Calls Try.prog 16 #[.pointer (some ⟨b, 0, none⟩)] w fun e w' => e = .returned (.int .u64 n) ∧ w' = w := by
  go_enter Try.func16, Try.ntmps16
  go_wp2_with (go_at_call 23; refine (load_any _ _ _ _ h).mono ?_; rintro e w' ⟨rfl, rfl⟩)
  go_ret
  exact ⟨rfl, rfl⟩

theorem completions_any (b : Nat) (n : Int) (w : World) (h : w.cell? ⟨b, 2, none⟩ = some (.int .u64 n)) :
    Calls Try.prog 17 #[.pointer (some ⟨b, 0, none⟩)] w fun e w' => e = .returned (.int .u64 n) ∧ w' = w := by
  go_enter Try.func17, Try.ntmps17
  go_wp2_with (go_at_call 23; refine (load_any _ _ _ _ h).mono ?_; rintro e w' ⟨rfl, rfl⟩)
  go_ret
  exact ⟨rfl, rfl⟩

/-- Only the sections of the pool in block g have turned. -/
structure Tou (g : Nat) (w w' : World) : Prop where
  os : w'.os = w.os
  tape : w'.tape = w.tape
  output : w'.output = w.output
  size : w'.heap.size = w.heap.size
  block : ∀ k, ¬ (g + 1 ≤ k ∧ k < g + 257) → w'.heap[k]? = w.heap[k]?

theorem Tou.refl (g : Nat) (w : World) : Tou g w w := ⟨rfl, rfl, rfl, rfl, fun _ _ => rfl⟩
theorem Tou.trans {g : Nat} {a b c : World} (h : Tou g a b) (k : Tou g b c) : Tou g a c :=
  ⟨k.os.trans h.os, k.tape.trans h.tape, k.output.trans h.output, k.size.trans h.size, fun i hi => (k.block i hi).trans (h.block i hi)⟩
theorem Tou.set {g : Nat} {a w : World} (h : Tou g a w) {s o : Nat} (hs : s < 256) (v : Value) : Tou g a (w.setCell ⟨g + 1 + s, o, none⟩ v) :=
  ⟨h.os, h.tape, h.output, (World.size_setCell ..).trans h.size, fun k hk => (Below.heap_setCell _ _ _ _ (by show k ≠ g + 1 + s; omega)).trans (h.block k hk)⟩
theorem Tou.below {g B : Nat} {w w' : World} (h : Tou g w w') (hB : B ≤ g + 1) : Below B w w' :=
  ⟨h.os, h.tape, h.output, Nat.le_of_eq h.size.symm, fun k hk => h.block k (by omega)⟩
theorem Tou.seg {g : Nat} {w w' : World} (h : Tou g w w') {sec : Nat → Addr} {B B' : Nat} (hB : g + 257 ≤ B) {l : List Nat} {p q : Value} (hs : Seg w sec B B' p l q) : Seg w' sec B B' p l q :=
  hs.blocks (fun b h1 _ => h.block b (by omega))
theorem Tou.idx {g : Nat} {w w' : World} (h : Tou g w w') {a : Option Addr} {n gi : Nat} {f : Nat → Nat} (hs : Idx w a n gi f) (hg : gi < g) : Idx w' a n gi f :=
  hs.of_block (h.block gi (by omega))
theorem Tou.pool {g g' : Nat} {w w' : World} {S C : Nat → Nat} (h : Tou g w w') (hp : Pool w g' S C) (hg : g' + 257 ≤ g ∨ g + 257 ≤ g') : Pool w' g' S C :=
  ⟨hp.top.of_block (h.block g' (by omega)), fun i hi => (hp.sec i hi).of_block (h.block _ (by omega))⟩

theorem sect_set1 (s c : Nat) (n : Int) (hn : n = (s : Int)) : (fun j => if j = 1 then (Value.int .u64 (n + 1)) else sect s c j) = sect (s + 1) c := by
  subst hn
  funext j
  unfold sect
  by_cases h1 : j = 1
  · simp [h1]
  · by_cases h0 : j = 0 <;> simp [h0, h1]
theorem sect_set2 (s c : Nat) (n : Int) (hn : n = (c : Int)) : ∀ j, j < 3 → (fun j => if j = 2 then (Value.int .u64 (n + 1)) else sect s c j) j = sect s (c + 1) j := by
  subst hn
  intro j hj
  unfold sect
  have : j = 0 ∨ j = 1 ∨ j = 2 := by omega
  rcases this with rfl | rfl | rfl <;> simp

theorem Pool.start {w : World} {g : Nat} {S C : Nat → Nat} (h : Pool w g S C) {s : Nat} (hs : s < 256) :
    Pool (w.setCell ⟨g + 1 + s, 1, none⟩ (.int .u64 ((S s : Int) + 1))) g (fun i => if i = s then S i + 1 else S i) C := by
  refine ⟨h.top.setOther (by show g ≠ g + 1 + s; omega) _, fun i hi => ?_⟩
  by_cases e : i = s
  · subst e
    have := (h.sec i hi).set 1 (.int .u64 ((S i : Int) + 1))
    rw [sect_set1 _ _ _ rfl] at this
    simpa using this
  · have := (h.sec i hi).setOther (a := ⟨g + 1 + s, 1, none⟩) (by show g + 1 + i ≠ g + 1 + s; omega) (.int .u64 ((S s : Int) + 1))
    simpa [e] using this

theorem Pool.complete {w : World} {g : Nat} {S C : Nat → Nat} (h : Pool w g S C) {s : Nat} (hs : s < 256) :
    Pool (w.setCell ⟨g + 1 + s, 2, none⟩ (.int .u64 ((C s : Int) + 1))) g S (fun i => if i = s then C i + 1 else C i) := by
  refine ⟨h.top.setOther (by show g ≠ g + 1 + s; omega) _, fun i hi => ?_⟩
  by_cases e : i = s
  · subst e
    have := ((h.sec i hi).set 2 (.int .u64 ((C i : Int) + 1))).congr (sect_set2 _ _ _ rfl)
    simpa using this
  · have := (h.sec i hi).setOther (a := ⟨g + 1 + s, 2, none⟩) (by show g + 1 + i ≠ g + 1 + s; omega) (.int .u64 ((C s : Int) + 1))
    simpa [e] using this

/-- How often i stands in the list. -/
def cnt (i : Nat) : List Nat → Nat
  | [] => 0
  | s :: l => (if i = s then 1 else 0) + cnt i l

theorem cnt_le (i : Nat) : ∀ l, cnt i l ≤ l.length
  | [] => Nat.le_refl _
  | s :: l => by have := cnt_le i l; simp only [cnt, List.length_cons]; split <;> omega

theorem cnt_append (i : Nat) : ∀ l m, cnt i (l ++ m) = cnt i l + cnt i m
  | [], m => by simp [cnt]
  | s :: l, m => by simp only [List.cons_append, cnt, cnt_append i l m]; omega

set_option maxHeartbeats 400000 in
set_option maxRecDepth 100000 in
theorem start_any (g : Nat) (S C : Nat → Nat) (B B' : Nat) (l : List Nat) (p : Option Addr) (w : World) (hpool : Pool w g S C) (hseg : Seg w (secOf g) B B' (.pointer p) l (.pointer none)) (hB : g + 257 ≤ B)
    (hl : ∀ s ∈ l, s < 256) (hS : ∀ i, S i + l.length < 4611686018427387904) :
    Calls Try.prog 21 #[.pointer p] w fun e w' => e = .returned (.tuple #[]) ∧ Pool w' g (fun i => S i + cnt i l) C ∧ Tou g w w' := by
  go_enter Try.func21, Try.ntmps21
  go_wp2_with fail
  go_loopg [0] l.length (fun k t wr => ∃ l1 l2, l = l1 ++ l2 ∧ l2.length = k ∧ ∃ q, t = .pointer q ∧ Seg wr (secOf g) B B' (.pointer q) l2 (.pointer none) ∧ Pool wr g (fun i => S i + cnt i l1) C ∧ Tou g w wr)
  case atStart => exact ⟨[], l, rfl, rfl, p, rfl, hseg, by simpa [cnt] using hpool, Tou.refl g w⟩
  case round =>
    obtain ⟨l1, l2, hl12, hlen, q, rfl, hs, hp, ht⟩ := hrel
    cases l2 with
    | nil =>
      obtain rfl : q = none := by simpa [Seg] using hs
      have Hl : Hid (l = l1 ++ []) := hl12
      clear hl12 hlen
      go_wp2_with fail
      go_end0
      exact ⟨rfl, by rw [Hl.out, List.append_nil]; exact hp, ht⟩
    | cons s l2 =>
      obtain ⟨b, r, h1, h2, h3, hrow, h6⟩ := hs
      obtain rfl : q = some ⟨b, 0, none⟩ := by simpa using h1
      have hs256 : s < 256 := hl s (by rw [hl12]; simp)
      have c0 : wr.cell? ⟨b, 0, none⟩ = some (.pointer (some ⟨g + 1 + s, 0, none⟩)) := hrow.cell (i := 0) (by omega)
      have c1 : wr.cell? ⟨b, 1, none⟩ = some (.pointer r) := hrow.cell (i := 1) (by omega)
      have d1 : wr.cell? ⟨g + 1 + s, 1, none⟩ = some (.int .u64 ((S s + cnt s l1 : Nat) : Int)) := (hp.sec s hs256).cell (i := 1) (by omega)
      have f1 : wr.frozen? ⟨g + 1 + s, 1, none⟩ = false := (hp.sec s hs256).frozen 1
      have hbd : S s + cnt s l1 < 4611686018427387904 := by
        have a1 := hS s
        have a2 := cnt_le s l1
        rw [hl12] at a1
        simp at a1
        omega
      obtain ⟨N, hN⟩ : ∃ N, N = S s + cnt s l1 := ⟨_, rfl⟩
      have hst := hp.start hs256
      have hto := ht.set hs256 (o := 1) (.int .u64 ((N : Int) + 1))
      simp only [← hN] at hst d1 hbd
      have Hl : Hid (l = l1 ++ s :: l2) := hl12
      have Hn : Hid (N = S s + cnt s l1) := hN
      have Hk : Hid ((s :: l2).length = gk) := hlen
      have Hrow : Hid (wr.rowIs b 42 2 (node (.pointer (some (secOf g s))) (.pointer r))) := hrow
      clear hl12 hlen hN hrow h1
      have hbg : g + 1 + s ≠ b := by omega
      go_wp2_with fail
      refine (add_any _ _ _ _ (by exact d1) (by exact f1) (by omega) (by omega)).mono ?_
      rintro e w' ⟨rfl, hw'⟩
      have c1' : w'.cell? ⟨b, 1, none⟩ = some (.pointer r) := by
        rw [hw', World.cell?_setCell_other]
        · exact c1
        · intro e; exact hbg (congrArg Addr.block e)
      have Hw' : Hid (w' = wr.setCell ⟨g + 1 + s, 1, none⟩ (.int .u64 ((N : Int) + 1))) := hw'
      clear hw' c1 c0
      go_wp2_with fail
      go_roundg l2.length
      case measure => have := Hk.out; simp at this; omega
      case rel =>
        refine ⟨l1 ++ [s], l2, by rw [Hl.out]; simp, rfl, r, rfl, ?_, ?_, ?_⟩
        · rw [Hw'.out]
          exact h6.blocks (fun k hk _ => Below.heap_setCell _ _ _ _ (by show k ≠ g + 1 + s; omega))
        · rw [Hw'.out]
          have e : (fun i => S i + cnt i (l1 ++ [s])) = (fun i => if i = s then S i + cnt i l1 + 1 else S i + cnt i l1) := by
            funext i
            rw [cnt_append]
            simp only [cnt]
            by_cases e : i = s <;> simp [e] <;> omega
          rw [e]
          exact hst
        · rw [Hw'.out]; exact hto

set_option maxHeartbeats 400000 in
set_option maxRecDepth 100000 in
theorem complete_any (g : Nat) (S C : Nat → Nat) (B B' : Nat) (l : List Nat) (p : Option Addr) (w : World) (hpool : Pool w g S C) (hseg : Seg w (secOf g) B B' (.pointer p) l (.pointer none)) (hB : g + 257 ≤ B)
    (hl : ∀ s ∈ l, s < 256) (hS : ∀ i, C i + l.length < 4611686018427387904) :
    Calls Try.prog 22 #[.pointer p] w fun e w' => e = .returned (.tuple #[]) ∧ Pool w' g S (fun i => C i + cnt i l) ∧ Tou g w w' := by
  go_enter Try.func22, Try.ntmps22
  go_wp2_with fail
  go_loopg [0] l.length (fun k t wr => ∃ l1 l2, l = l1 ++ l2 ∧ l2.length = k ∧ ∃ q, t = .pointer q ∧ Seg wr (secOf g) B B' (.pointer q) l2 (.pointer none) ∧ Pool wr g S (fun i => C i + cnt i l1) ∧ Tou g w wr)
  case atStart => exact ⟨[], l, rfl, rfl, p, rfl, hseg, by simpa [cnt] using hpool, Tou.refl g w⟩
  case round =>
    obtain ⟨l1, l2, hl12, hlen, q, rfl, hs, hp, ht⟩ := hrel
    cases l2 with
    | nil =>
      obtain rfl : q = none := by simpa [Seg] using hs
      have Hl : Hid (l = l1 ++ []) := hl12
      clear hl12 hlen
      go_wp2_with fail
      go_end0
      exact ⟨rfl, by rw [Hl.out, List.append_nil]; exact hp, ht⟩
    | cons s l2 =>
      obtain ⟨b, r, h1, h2, h3, hrow, h6⟩ := hs
      obtain rfl : q = some ⟨b, 0, none⟩ := by simpa using h1
      have hs256 : s < 256 := hl s (by rw [hl12]; simp)
      have c0 : wr.cell? ⟨b, 0, none⟩ = some (.pointer (some ⟨g + 1 + s, 0, none⟩)) := hrow.cell (i := 0) (by omega)
      have c1 : wr.cell? ⟨b, 1, none⟩ = some (.pointer r) := hrow.cell (i := 1) (by omega)
      have d1 : wr.cell? ⟨g + 1 + s, 2, none⟩ = some (.int .u64 ((C s + cnt s l1 : Nat) : Int)) := (hp.sec s hs256).cell (i := 2) (by omega)
      have f1 : wr.frozen? ⟨g + 1 + s, 2, none⟩ = false := (hp.sec s hs256).frozen 2
      have hbd : C s + cnt s l1 < 4611686018427387904 := by
        have a1 := hS s
        have a2 := cnt_le s l1
        rw [hl12] at a1
        simp at a1
        omega
      obtain ⟨N, hN⟩ : ∃ N, N = C s + cnt s l1 := ⟨_, rfl⟩
      have hst := hp.complete hs256
      have hto := ht.set hs256 (o := 2) (.int .u64 ((N : Int) + 1))
      simp only [← hN] at hst d1 hbd
      have Hl : Hid (l = l1 ++ s :: l2) := hl12
      have Hn : Hid (N = C s + cnt s l1) := hN
      have Hk : Hid ((s :: l2).length = gk) := hlen
      have Hrow : Hid (wr.rowIs b 42 2 (node (.pointer (some (secOf g s))) (.pointer r))) := hrow
      clear hl12 hlen hN hrow h1
      have hbg : g + 1 + s ≠ b := by omega
      go_wp2_with fail
      refine (add_any _ _ _ _ (by exact d1) (by exact f1) (by omega) (by omega)).mono ?_
      rintro e w' ⟨rfl, hw'⟩
      have c1' : w'.cell? ⟨b, 1, none⟩ = some (.pointer r) := by
        rw [hw', World.cell?_setCell_other]
        · exact c1
        · intro e; exact hbg (congrArg Addr.block e)
      have Hw' : Hid (w' = wr.setCell ⟨g + 1 + s, 2, none⟩ (.int .u64 ((N : Int) + 1))) := hw'
      clear hw' c1 c0
      go_wp2_with fail
      go_roundg l2.length
      case measure => have := Hk.out; simp at this; omega
      case rel =>
        refine ⟨l1 ++ [s], l2, by rw [Hl.out]; simp, rfl, r, rfl, ?_, ?_, ?_⟩
        · rw [Hw'.out]
          exact h6.blocks (fun k hk _ => Below.heap_setCell _ _ _ _ (by show k ≠ g + 1 + s; omega))
        · rw [Hw'.out]
          have e : (fun i => C i + cnt i (l1 ++ [s])) = (fun i => if i = s then C i + cnt i l1 + 1 else C i + cnt i l1) := by
            funext i
            rw [cnt_append]
            simp only [cnt]
            by_cases e : i = s <;> simp [e] <;> omega
          rw [e]
          exact hst
        · rw [Hw'.out]; exact hto

theorem startZ_any (g : Nat) (S C : Nat → Nat) (B B' : Nat) (l : List Nat) (p : Option Addr) (w : World) (hpool : Pool w g S C) (hseg : Seg w (secOf g) B B' (.pointer p) l (.pointer none)) (hB : g + 257 ≤ B)
    (hl : ∀ s ∈ l, s < 256) (hS : ∀ i, S i + l.length < 4611686018427387904) :
    Calls Try.prog 14 #[.pointer p] w fun e w' => e = .returned (.tuple #[]) ∧ Pool w' g (fun i => S i + cnt i l) C ∧ Tou g w w' := by
  go_enter Try.func14, Try.ntmps14
  go_wp2_with (go_at_call 21; refine (start_any g S C B B' l p _ hpool hseg hB hl hS).mono ?_; rintro e w' ⟨rfl, h1, h2⟩)
  go_end0
  exact ⟨rfl, h1, h2⟩

theorem completeZ_any (g : Nat) (S C : Nat → Nat) (B B' : Nat) (l : List Nat) (p : Option Addr) (w : World) (hpool : Pool w g S C) (hseg : Seg w (secOf g) B B' (.pointer p) l (.pointer none)) (hB : g + 257 ≤ B)
    (hl : ∀ s ∈ l, s < 256) (hS : ∀ i, C i + l.length < 4611686018427387904) :
    Calls Try.prog 15 #[.pointer p] w fun e w' => e = .returned (.tuple #[]) ∧ Pool w' g S (fun i => C i + cnt i l) ∧ Tou g w w' := by
  go_enter Try.func15, Try.ntmps15
  go_wp2_with (go_at_call 22; refine (complete_any g S C B B' l p _ hpool hseg hB hl hS).mono ?_; rintro e w' ⟨rfl, h1, h2⟩)
  go_end0
  exact ⟨rfl, h1, h2⟩

/-- zzBytes: the two lengths in all. -/
theorem bytes4_any (a b : Option Addr) (n c m d : Nat) (r : Int) (w : World) (hn : n ≤ 9223372036854775807) (hm : m ≤ 9223372036854775807) :
    Calls Try.prog 13 #[.slice a n c, .slice b m d, .int .u8 r] w fun e w' => e = .returned (.bool (decide (n + m ≤ 1048576))) ∧ w = w' := by
  by_cases h1 : 1048576 < n
  · have e : decide (n + m ≤ 1048576) = false := by simp; omega
    rw [e]
    go_enter Try.func13, Try.ntmps13
    go_wp2
    go_ret
    exact ⟨rfl, rfl⟩
  by_cases h2 : 1048576 < m
  · have e : decide (n + m ≤ 1048576) = false := by simp; omega
    rw [e]
    go_enter Try.func13, Try.ntmps13
    go_wp2
    go_ret
    exact ⟨rfl, rfl⟩
  by_cases h3 : 1048576 < n + m
  · have e : decide (n + m ≤ 1048576) = false := by simp; omega
    rw [e]
    go_enter Try.func13, Try.ntmps13
    go_wp2
    go_ret
    exact ⟨rfl, rfl⟩
  · have e : decide (n + m ≤ 1048576) = true := by simp; omega
    rw [e]
    go_enter Try.func13, Try.ntmps13
    go_wp2
    go_ret
    exact ⟨rfl, rfl⟩

/-- Only the sections of the two pools have turned. -/
structure Tou2 (g g' : Nat) (w w' : World) : Prop where
  os : w'.os = w.os
  tape : w'.tape = w.tape
  output : w'.output = w.output
  size : w'.heap.size = w.heap.size
  block : ∀ k, ¬ (g + 1 ≤ k ∧ k < g + 257) → ¬ (g' + 1 ≤ k ∧ k < g' + 257) → w'.heap[k]? = w.heap[k]?

theorem Tou2.refl (g g' : Nat) (w : World) : Tou2 g g' w w := ⟨rfl, rfl, rfl, rfl, fun _ _ _ => rfl⟩
theorem Tou2.left {g g' : Nat} {a b c : World} (h : Tou2 g g' a b) (k : Tou g b c) : Tou2 g g' a c :=
  ⟨k.os.trans h.os, k.tape.trans h.tape, k.output.trans h.output, k.size.trans h.size, fun i hi hi' => (k.block i hi).trans (h.block i hi hi')⟩
theorem Tou2.right {g g' : Nat} {a b c : World} (h : Tou2 g g' a b) (k : Tou g' b c) : Tou2 g g' a c :=
  ⟨k.os.trans h.os, k.tape.trans h.tape, k.output.trans h.output, k.size.trans h.size, fun i hi hi' => (k.block i hi').trans (h.block i hi hi')⟩
theorem Tou2.seg {g g' : Nat} {w w' : World} (h : Tou2 g g' w w') {sec : Nat → Addr} {B B' : Nat} (hB : g + 257 ≤ B) (hB' : g' + 257 ≤ B) {l : List Nat} {p q : Value} (hs : Seg w sec B B' p l q) : Seg w' sec B B' p l q :=
  hs.blocks (fun b h1 _ => h.block b (by omega) (by omega))
theorem Tou2.idx {g g' : Nat} {w w' : World} (h : Tou2 g g' w w') {a : Option Addr} {n gi : Nat} {f : Nat → Nat} (hs : Idx w a n gi f) (hg : 0 < n → gi < g) (hg' : 0 < n → gi < g') : Idx w' a n gi f :=
  ⟨hs.small, hs.byte, fun h0 => ⟨(hs.row h0).1, (hs.row h0).2.of_block (h.block gi (by have := hg h0; omega) (by have := hg' h0; omega))⟩⟩
theorem Tou2.below {g g' B : Nat} {w w' : World} (h : Tou2 g g' w w') (hB : B ≤ g + 1) (hB' : B ≤ g' + 1) : Below B w w' :=
  ⟨h.os, h.tape, h.output, Nat.le_of_eq h.size.symm, fun k hk => h.block k (by omega) (by omega)⟩

theorem lst_length (f : Nat → Nat) : ∀ k j, (lst f k j).length = j
  | _, 0 => rfl
  | k, j + 1 => by simp [lst, lst_length f (k + 1) j]
theorem lst_mem {f : Nat → Nat} (hf : ∀ i, f i < 256) : ∀ k j, ∀ s ∈ lst f k j, s < 256
  | _, 0, s, h => by simp [lst] at h
  | k, j + 1, s, h => by
    simp only [lst, List.mem_cons] at h
    rcases h with rfl | h
    · exact hf k
    · exact lst_mem hf (k + 1) j s h
theorem lst_snoc (f : Nat → Nat) : ∀ k j, lst f k (j + 1) = lst f k j ++ [f (k + j)]
  | _, 0 => rfl
  | k, j + 1 => by
    show f k :: lst f (k + 1) (j + 1) = f k :: (lst f (k + 1) j ++ [f (k + (j + 1))])
    rw [lst_snoc f (k + 1) j]
    have e : k + 1 + j = k + (j + 1) := by omega
    rw [e]

theorem hide {p : Prop} (h : p) : Hid p := h

/-- How often i stands in the two lists. -/
def tot (T U : List Nat) (i : Nat) : Nat := cnt i T + cnt i U
theorem tot_append (T U : List Nat) (i : Nat) : cnt i (T ++ U) = tot T U i := cnt_append i T U
theorem tot_le {T U : List Nat} (lT : T.length ≤ 65536) (lU : U.length ≤ 65536) (i : Nat) : tot T U i ≤ 131072 := by
  have := cnt_le i T
  have := cnt_le i U
  unfold tot
  omega
theorem tot_bound {T U : List Nat} {r : Nat} (hr : r ≤ 16) (lT : T.length ≤ 65536) (lU : U.length ≤ 65536) (i : Nat) : r * tot T U i ≤ 2097152 :=
  Nat.le_trans (Nat.mul_le_mul hr (tot_le lT lU i)) (by omega)
theorem tot_step (T U : List Nat) (r : Nat) : (fun i => r * tot T U i + cnt i (T ++ U)) = (fun i => (r + 1) * tot T U i) := by
  funext i
  rw [tot_append, Nat.succ_mul]
theorem tot_step2 (T U : List Nat) (r : Nat) : (fun i => r * tot T U i + cnt i T + cnt i U) = (fun i => (r + 1) * tot T U i) := by
  funext i
  rw [Nat.succ_mul]
  unfold tot
  omega

/-! The array of counts. -/
def zeros : Array Value := Array.replicate 256 (.int .u64 0)
theorem zero37 (w : World) : (zeroValue 37).run Try.prog w = .ok (.agg zeros) w := by kernel_rfl
theorem arr_at8 {b n : Nat} (hn : n < 256) (w : World) :
    (Instr.indexAt 37 (.pointer (some ⟨b, 0, none⟩)) (.int .u8 (n : Int))).run Try.prog w = .ok (.pointer (some ⟨b, n, none⟩)) w := by
  have hc : (0 : Int) ≤ (n : Int) ∧ (n : Int) < 256 := by omega
  simp [go_sem, hc, Try.underlying37]
theorem arr_at64 {b n : Nat} (hn : n < 256) (w : World) :
    (Instr.indexAt 37 (.pointer (some ⟨b, 0, none⟩)) (.int .i64 (n : Int))).run Try.prog w = .ok (.pointer (some ⟨b, n, none⟩)) w := by
  have hc : (0 : Int) ≤ (n : Int) ∧ (n : Int) < 256 := by omega
  simp [go_sem, hc, Try.underlying37]
theorem pool_at64 {g n : Nat} (hn : n < 256) (w : World) :
    (Instr.indexAt 25 (.slice (some ⟨g, 0, none⟩) 256 256) (.int .i64 (n : Int))).run Try.prog w = .ok (.pointer (some ⟨g, n, none⟩)) w := by
  have hc : (0 : Int) ≤ (n : Int) ∧ (n : Int) < 256 := by omega
  simp [go_sem, hc, Try.underlying25]

/-- The counts so far: K i at i. -/
structure CntTo (w wr : World) (K : Nat → Nat) : Prop where
  row : wr.rowIs w.heap.size 37 256 (fun i => .int .u64 (K i : Int))
  bel : Below w.heap.size w wr

theorem CntTo.begin (w : World) : CntTo w (w.alloc (.cells zeros 37)) (fun _ => 0) := by
  refine ⟨?_, (Below.refl _ _).alloc (Nat.le_refl _) _⟩
  have := World.rowIs_alloc w zeros 37 (fun _ => .int .u64 0) (fun i hi => by have hi' : i < 256 := by simpa [zeros] using hi
                                                                              simp [zeros, hi'])
  have e : zeros.size = 256 := by simp [zeros]
  rw [e] at this
  exact this

theorem CntTo.bump {w wr : World} {K : Nat → Nat} (h : CntTo w wr K) (s : Nat) : CntTo w (wr.setCell ⟨w.heap.size, s, none⟩ (.int .u64 ((K s : Int) + 1))) (fun i => if i = s then K i + 1 else K i) := by
  refine ⟨(h.row.set s _).congr ?_, h.bel.setCell (Nat.le_refl _) _⟩
  intro i hi
  by_cases e : i = s <;> simp [e]

theorem cnt_snoc (l : List Nat) (s i : Nat) : cnt i (l ++ [s]) = if i = s then cnt i l + 1 else cnt i l := by
  rw [cnt_append]
  simp only [cnt]
  by_cases e : i = s <;> simp [e]

end Go.Proofs.Qxb6002450a
