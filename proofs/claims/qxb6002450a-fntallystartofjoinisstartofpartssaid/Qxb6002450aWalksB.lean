/-
  Contracts: zzBuild, join, zzReads.
-/
import Derived.Test.Qxb6002450aWalksA
namespace Go.Proofs.Qxb6002450a
open Go.RowKit

theorem Try.info50 : (Try.prog.info? 50).map (fun i => i.size) = some 3 := by kernel_rfl
theorem Try.info42 : (Try.prog.info? 42).map (fun i => i.size) = some 2 := by kernel_rfl
theorem sec_neq (a : Addr) (w : World) : (binOp .neq 30 (.pointer (some a)) (.pointer (some a))).run Try.prog w = .ok (.bool false) w := by
  obtain ⟨i, hi, _⟩ := Option.map_eq_some_iff.1 Try.info50
  exact neq_same Try.underlying30 hi a w
theorem tally_neq (a : Addr) (w : World) : (binOp .neq 27 (.pointer (some a)) (.pointer (some a))).run Try.prog w = .ok (.bool false) w := by
  obtain ⟨i, hi, _⟩ := Option.map_eq_some_iff.1 Try.info42
  exact neq_same Try.underlying27 hi a w
theorem tally_neq_any (p : Option Addr) (w : World) : (binOp .neq 27 (.pointer p) (.pointer p)).run Try.prog w = .ok (.bool false) w := by
  cases p with
  | none =>
    have h : ∀ d : Nat, (Op.equalIn (d + 1) 27 (.pointer none) (.pointer none)).run Try.prog w = .ok true w := fun d => by
      simp [Op.equalIn, run_underlying Try.underlying27]
    simp only [binOp]
    simp [Op.equal, Op.maxDepth, h 9999]
  | some a => exact tally_neq a w
theorem tally_eql {b b' : Nat} {w : World} {u u' : TypeId} {n n' : Nat} {f f' : Nat → Value} (h1 : w.rowIs b u n f) (h2 : w.rowIs b' u' n' f') (hne : b ≠ b') :
    (binOp .eql 27 (.pointer (some ⟨b, 0, none⟩)) (.pointer (some ⟨b', 0, none⟩))).run Try.prog w = .ok (.bool false) w := by
  obtain ⟨i, hi, hs⟩ := Option.map_eq_some_iff.1 Try.info42
  exact eql_other Try.underlying27 hi (by rw [hs]; decide) h1 h2 hne

theorem Pool.at {g n : Nat} (hn : n < 256) (w : World) :
    (Instr.indexAt 25 (.slice (some ⟨g, 0, none⟩) 256 256) (.int .u8 (n : Int))).run Try.prog w = .ok (.pointer (some ⟨g, n, none⟩)) w := by
  have hc : (0 : Int) ≤ (n : Int) ∧ (n : Int) < 256 := by omega
  simp [go_sem, hc, Try.underlying25]

/-- After j rounds of zzBuild. -/
structure BuildTo (w wr : World) (g : Nat) (f : Nat → Nat) (n j : Nat) (p : Value) : Prop where
  seg : Seg wr (secOf g) w.heap.size wr.heap.size p (lst f (n - j) j) (.pointer none)
  bel : Below w.heap.size w wr

theorem BuildTo.step {w wr : World} {g : Nat} {f : Nat → Nat} {n j : Nat} {p : Option Addr} (h : BuildTo w wr g f n j (.pointer p)) (hj : j < n) :
    BuildTo w (wr.alloc (.cells #[.pointer (some ⟨g + 1 + f (n - (j + 1)), 0, none⟩), .pointer p] 42)) g f n (j + 1) (.pointer (some ⟨wr.heap.size, 0, none⟩)) := by
  obtain ⟨h1, h2⟩ := h
  have hle := h2.size
  refine ⟨?_, h2.alloc hle _⟩
  have e : n - (j + 1) + 1 = n - j := by omega
  refine ⟨wr.heap.size, p, rfl, hle, by simp, rowIs_link wr _ _, ?_⟩
  rw [e]
  exact (h1.below ((Below.refl wr.heap.size wr).alloc (Nat.le_refl _) _) (Nat.le_refl _)).widen (Nat.le_refl _) (by simp)

set_option maxHeartbeats 400000 in
set_option maxRecDepth 100000 in
theorem build_any (g : Nat) (S C : Nat → Nat) (a : Option Addr) (n c gi : Nat) (f : Nat → Nat) (w : World) (hpool : Pool w g S C) (hidx : Idx w a n gi f) (hg : g < w.heap.size) :
    Calls Try.prog 8 #[.slice (some ⟨g, 0, none⟩) 256 256, .slice a n c] w fun e w' => ∃ p, e = .returned (.pointer p) ∧ Seg w' (secOf g) w.heap.size w'.heap.size (.pointer p) (lst f 0 n) (.pointer none) ∧ Below w.heap.size w w' := by
  have hsmall := hidx.small
  go_enter Try.func8, Try.ntmps8
  go_wp2
  go_loopw [5, 6] (fun t i wr => ∃ j : Nat, j ≤ n ∧ i = .int .i64 ((n : Int) - 1 - j) ∧ ∃ p, t = .pointer p ∧ BuildTo w wr g f n j (.pointer p)) (fun _ i _ => (intOf i + 1).toNat)
  case atStart => exact ⟨0, by omega, by go_num, none, rfl, ⟨rfl, Below.refl _ _⟩⟩
  case round =>
    obtain ⟨j, hj, rfl, p, rfl, hp⟩ := hrel
    by_cases hlt : j < n
    · obtain ⟨k, hk⟩ : ∃ k : Nat, k = n - (j + 1) := ⟨_, rfl⟩
      have hkn : k < n := by omega
      have e1 : (n : Int) - 1 - (j : Int) = (k : Int) := by omega
      have hst := hp.step hlt
      rw [← hk] at hst
      have hb := hp.bel
      have hfk := hidx.byte k
      have hgi : gi < w.heap.size := (hidx.row (by omega)).2.lt
      have hi0 := fun w' => hidx.at (c := c) hkn w'
      have hc0 : wr.cell? ⟨gi, k, none⟩ = some (.int .u8 (f k : Int)) := by rw [hb.cell (p := ⟨gi, k, none⟩) hgi]; exact hidx.cell hkn
      have hi1 := fun w' => Pool.at (g := g) hfk w'
      have hc1 : wr.cell? ⟨g, f k, none⟩ = some (.pointer (some ⟨g + 1 + f k, 0, none⟩)) := by rw [hb.cell (p := ⟨g, f k, none⟩) hg]; exact hpool.top.cell hfk
      have Hk : Hid (k = n - (j + 1)) := hk
      have H1 : Hid ((n : Int) - 1 - (j : Int) = (k : Int)) := e1
      rw [e1]
      clear hk e1
      go_wp2_with (go_at_call 19; refine (link_any _ _ _).mono ?_; rintro e w' ⟨rfl, rfl⟩)
      go_roundw
      case rel => exact ⟨j + 1, by omega, by congr 1; have := H1.out; omega, _, rfl, hst⟩
      case measure => simp [intOf]
    · have hj' : j = n := by omega
      subst hj'
      have e1 : (j : Int) - 1 - (j : Int) = -1 := by omega
      rw [e1]
      go_wp2_with fail
      go_ret
      exact ⟨p, rfl, by have := hp.seg; rwa [Nat.sub_self] at this, hp.bel⟩

theorem join_seg {w w1 : World} {sec : Nat → Addr} {s : Nat} {l : List Nat} {q : Option Addr} {tail : Value} (hs : Seg w1 sec w.drew.heap.size w1.heap.size (.pointer q) l tail) (hb : Below w.drew.heap.size w.drew w1) :
    Seg (w1.alloc (.cells #[.pointer (some (sec s)), .pointer q] 42)) sec w.heap.size (w1.alloc (.cells #[.pointer (some (sec s)), .pointer q] 42)).heap.size (.pointer (some ⟨w1.heap.size, 0, none⟩)) (s :: l) tail := by
  refine ⟨w1.heap.size, q, rfl, hb.size, by simp, rowIs_link w1 _ _, ?_⟩
  exact (hs.below ((Below.refl w1.heap.size w1).alloc (Nat.le_refl _) _) (Nat.le_refl _)).widen (Nat.le_refl _) (by simp)
theorem join_below {w w1 : World} {o : Obj} (hb : Below w.drew.heap.size w.drew w1) : Below w.heap.size w (w1.alloc o) :=
  Below.alloc (B := w.heap.size) (a := w) ⟨hb.os, hb.tape, hb.output, hb.size, hb.block⟩ hb.size o

set_option maxHeartbeats 400000 in
theorem join_any (sec : Nat → Addr) (B B' : Nat) (l : List Nat) : ∀ (p tail : Option Addr) (w : World), Seg w sec B B' (.pointer p) l (.pointer none) → B' ≤ w.heap.size →
    Calls Try.prog 20 #[.pointer p, .pointer tail] w fun e w' => ∃ q, e = .returned (.pointer q) ∧ Seg w' sec w.heap.size w'.heap.size (.pointer q) l (.pointer tail) ∧ Below w.heap.size w w' := by
  induction l with
  | nil =>
    intro p tail w h hB
    obtain rfl : p = none := by simpa [Seg] using h
    go_enter Try.func20, Try.ntmps20
    go_wp2_with fail
    go_ret
    exact ⟨tail, rfl, rfl, Below.refl _ _⟩
  | cons s l ih =>
    intro p tail w h hB
    obtain ⟨b, r, h1, h2, h3, hrow, h6⟩ := h
    have h4 : w.cell? ⟨b, 0, none⟩ = some (.pointer (some (sec s))) := hrow.cell (i := 0) (by omega)
    have h5 : w.cell? ⟨b, 1, none⟩ = some (.pointer r) := hrow.cell (i := 1) (by omega)
    clear hrow
    obtain rfl : p = some ⟨b, 0, none⟩ := by simpa using h1
    have hih : Hid (∀ (p tail : Option Addr) (w : World), Seg w sec B B' (.pointer p) l (.pointer none) → B' ≤ w.heap.size → Calls Try.prog 20 #[.pointer p, .pointer tail] w fun e w' => ∃ q, e = .returned (.pointer q) ∧ Seg w' sec w.heap.size w'.heap.size (.pointer q) l (.pointer tail) ∧ Below w.heap.size w w') := ih
    clear ih h1
    have hbw : b < w.heap.size := by omega
    have h6' : Seg w.drew sec B B' (.pointer r) l (.pointer none) := Seg.blocks (w := w) (w' := w.drew) (fun _ _ _ => rfl) h6
    go_enter Try.func20, Try.ntmps20
    go_wp2_with fail
    go_region_held3 (fun w' => w'.cell? ⟨b, 0, none⟩ = some (.pointer (some (sec s))) ∧ w'.cell? ⟨b, 1, none⟩ = some (.pointer r))
      (first | exact ⟨h4, h5⟩ | exact ⟨(hb1.cell (p := ⟨b, 0, none⟩) hbw).trans h4, (hb1.cell (p := ⟨b, 1, none⟩) hbw).trans h5⟩ | exact ⟨((World.cell?_alloc_lt _ _ _ (Nat.lt_of_lt_of_le hbw hb1.size)).trans (hb1.cell (p := ⟨b, 0, none⟩) hbw)).trans h4, ((World.cell?_alloc_lt _ _ _ (Nat.lt_of_lt_of_le hbw hb1.size)).trans (hb1.cell (p := ⟨b, 1, none⟩) hbw)).trans h5⟩)
      ((go_at_call 20; refine (hih.out r tail _ h6' hB).mono ?_; rintro e w1 ⟨q, rfl, hs1, hb1⟩))
    go_wp2_with fail
    go_ret
    exact ⟨_, rfl, join_seg hs1 hb1, join_below hb1⟩

theorem joinZ_any (sec : Nat → Addr) (B B' : Nat) (l : List Nat) (p tail : Option Addr) (w : World) (h : Seg w sec B B' (.pointer p) l (.pointer none)) (hB : B' ≤ w.heap.size) :
    Calls Try.prog 9 #[.pointer p, .pointer tail] w fun e w' => ∃ q, e = .returned (.pointer q) ∧ Seg w' sec w.heap.size w'.heap.size (.pointer q) l (.pointer tail) ∧ Below w.heap.size w w' := by
  go_enter Try.func9, Try.ntmps9
  go_wp2_with (go_at_call 20; refine (join_any sec B B' l p tail _ h hB).mono ?_; rintro e w' ⟨q, rfl, hs1, hb1⟩)
  go_ret
  exact ⟨q, rfl, hs1, hb1⟩

/-- zzBytes: the two lengths in all. -/
theorem bytes_any (a b : Option Addr) (n c m d : Nat) (w : World) (hn : n ≤ 9223372036854775807) (hm : m ≤ 9223372036854775807) :
    Calls Try.prog 5 #[.slice a n c, .slice b m d] w fun e w' => e = .returned (.bool (decide (n + m ≤ 1048576))) ∧ w = w' := by
  by_cases h1 : 1048576 < n
  · have e : decide (n + m ≤ 1048576) = false := by simp; omega
    rw [e]
    go_enter Try.func5, Try.ntmps5
    go_wp2
    go_ret
    exact ⟨rfl, rfl⟩
  by_cases h2 : 1048576 < m
  · have e : decide (n + m ≤ 1048576) = false := by simp; omega
    rw [e]
    go_enter Try.func5, Try.ntmps5
    go_wp2
    go_ret
    exact ⟨rfl, rfl⟩
  by_cases h3 : 1048576 < n + m
  · have e : decide (n + m ≤ 1048576) = false := by simp; omega
    rw [e]
    go_enter Try.func5, Try.ntmps5
    go_wp2
    go_ret
    exact ⟨rfl, rfl⟩
  · have e : decide (n + m ≤ 1048576) = true := by simp; omega
    rw [e]
    go_enter Try.func5, Try.ntmps5
    go_wp2
    go_ret
    exact ⟨rfl, rfl⟩

/-- A chain that reads as the list: one step. -/
theorem lst_succ (f : Nat → Nat) (k n : Nat) (h : k < n) : lst f k (n - k) = f k :: lst f (k + 1) (n - (k + 1)) := by
  have e : n - k = (n - (k + 1)) + 1 := by omega
  rw [e]
  rfl

set_option maxHeartbeats 400000 in
set_option maxRecDepth 100000 in
theorem reads_any (g : Nat) (S C : Nat → Nat) (B B' : Nat) (p : Option Addr) (a : Option Addr) (n c gi : Nat) (f : Nat → Nat) (w : World) (hpool : Pool w g S C) (hidx : Idx w a n gi f)
    (hseg : Seg w (secOf g) B B' (.pointer p) (lst f 0 n) (.pointer none)) :
    Calls Try.prog 12 #[.slice (some ⟨g, 0, none⟩) 256 256, .pointer p, .slice a n c] w fun e w' => e = .returned (.bool true) ∧ ∃ m, w' = w.drewN m := by
  have hsmall := hidx.small
  go_enter Try.func12, Try.ntmps12
  go_wp2_with fail
  go_loopw [7, 8] (fun t i wr => ∃ k : Nat, k ≤ n ∧ i = .int .i64 k ∧ ∃ q m, t = .pointer q ∧ wr = w.drewN m ∧ Seg w (secOf g) B B' (.pointer q) (lst f k (n - k)) (.pointer none)) (fun _ i _ => n - (intOf i).toNat)
  case atStart => exact ⟨0, by omega, rfl, p, 0, rfl, rfl, hseg⟩
  case round =>
    obtain ⟨k, hk, rfl, q, m, rfl, hwr, hs⟩ := hrel
    by_cases hlt : k < n
    · rw [lst_succ f k n hlt] at hs
      obtain ⟨b, r, h1, h2, h3, hrow, h6⟩ := hs
      have h4 : w.cell? ⟨b, 0, none⟩ = some (.pointer (some ⟨g + 1 + f k, 0, none⟩)) := hrow.cell (i := 0) (by omega)
      have h5 : w.cell? ⟨b, 1, none⟩ = some (.pointer r) := hrow.cell (i := 1) (by omega)
      clear hrow
      have hne := fun w' => sec_neq (⟨g + 1 + f k, 0, none⟩) w'
      obtain rfl : q = some ⟨b, 0, none⟩ := by simpa using h1
      clear h1
      have hfk := hidx.byte k
      have hi0 := fun w' => hidx.at (c := c) hlt w'
      have hc0 : wr.cell? ⟨gi, k, none⟩ = some (.int .u8 (f k : Int)) := by rw [hwr]; exact hidx.cell hlt
      have hi1 := fun w' => Pool.at (g := g) hfk w'
      have hc1 : wr.cell? ⟨g, f k, none⟩ = some (.pointer (some ⟨g + 1 + f k, 0, none⟩)) := by rw [hwr]; exact hpool.top.cell hfk
      have h4' : wr.cell? ⟨b, 0, none⟩ = some (.pointer (some ⟨g + 1 + f k, 0, none⟩)) := by rw [hwr]; exact h4
      have h5' : wr.cell? ⟨b, 1, none⟩ = some (.pointer r) := by rw [hwr]; exact h5
      have Hwr : Hid (wr = w.drewN m) := hwr
      clear h4 h5 hwr
      go_wp2_with fail
      go_quiet ((go_at_call 10; exact Calls.quiet_of_same (sectionOf_any _ _ _ (by exact h4'))))
      go_wp2_with (go_at_call 11; refine (next_any _ _ _ (by exact h5')).mono ?_; rintro e w' ⟨rfl, rfl⟩)
      go_roundw
      case rel => exact ⟨k + 1, by omega, by go_num, r, m + nq, rfl, by rw [Hwr.out]; simp, h6⟩
      case measure => simp [intOf]; omega
    · have hk' : k = n := by omega
      subst hk'
      rw [Nat.sub_self] at hs
      obtain rfl : q = none := by simpa [lst, Seg] using hs
      have Hwr : Hid (wr = w.drewN m) := hwr
      clear hwr
      go_wp2_with fail
      go_ret
      exact ⟨rfl, m, Hwr.out⟩

theorem len_max {w : World} {a : Option Addr} {len cap : Nat} {zs : List Int} (h : IsRow .u8 w a len cap zs) : len ≤ 9223372036854775807 := by
  rcases h with ⟨_, rfl, _, _⟩ | ⟨x, _, hl, hm, _⟩
  · omega
  · unfold maxLen at hm; omega

theorem IsRow.below {w w' : World} {a : Option Addr} {len cap : Nat} {zs : List Int} (h : IsRow .u8 w a len cap zs) (hb : Below w.heap.size w w') : IsRow .u8 w' a len cap zs := by
  rcases h with h | ⟨x, h1, h2, h3, h4, h5, h6⟩
  · exact Or.inl h
  · exact Or.inr ⟨x, h1, h2, h3, h4, fun i hi => by rw [hb.cell (World.block_lt_of_cell? w _ (h5 i hi))]; exact h5 i hi, h6⟩

end Go.Proofs.Qxb6002450a
