/-
  zzReach (func 26): the walk.
-/
import Derived.Test.Qxb6000628aEdges
import Derived.Test.Qxb6000628aCsr
import Derived.BigRegion
set_option linter.unusedVariables false
namespace Go.Proofs.Qxb6000628a
open Go.RowKit

/-- A row of numbers. -/
def Rn (w : World) (g n : Nat) (f : Nat → Nat) : Prop := w.rowIs g 3 n (fun i => .int .i64 ((f i : Nat) : Int))

theorem Rn.cell {w : World} {g n : Nat} {f : Nat → Nat} (h : Rn w g n f) {i : Nat} (hi : i < n) : w.cell? ⟨g, i, none⟩ = some (.int .i64 (f i : Int)) := World.rowIs.cell h hi
theorem Rn.frozen {w : World} {g n : Nat} {f : Nat → Nat} (h : Rn w g n f) (i : Nat) : w.frozen? ⟨g, i, none⟩ = false := World.rowIs.frozen h i
theorem Rn.lt {w : World} {g n : Nat} {f : Nat → Nat} (h : Rn w g n f) : g < w.heap.size := World.rowIs.lt h
theorem Rn.congr {w : World} {g n : Nat} {f f' : Nat → Nat} (h : Rn w g n f) (e : ∀ i, i < n → f i = f' i) : Rn w g n f' := World.rowIs.congr h (fun i hi => by rw [e i hi])
theorem Rn.of_block {w w' : World} {g n : Nat} {f : Nat → Nat} (h : Rn w g n f) (e : w'.heap[g]? = w.heap[g]?) : Rn w' g n f := World.rowIs.of_block h e
theorem Rn.other {w : World} {g n : Nat} {f : Nat → Nat} (h : Rn w g n f) {a : Addr} (ha : g ≠ a.block) (v : Value) : Rn (w.setCell a v) g n f := World.rowIs.setOther h ha v
theorem Rn.alloc {w : World} {g n : Nat} {f : Nat → Nat} (h : Rn w g n f) (o : Obj) : Rn (w.alloc o) g n f := World.rowIs.alloc h o
theorem Rn.set {w : World} {g n : Nat} {f : Nat → Nat} (h : Rn w g n f) (i v : Nat) (z : Int) (hz : z = (v : Int)) : Rn (w.setCell ⟨g, i, none⟩ (.int .i64 z)) g n (upd f i v) := by
  subst hz
  refine World.rowIs.congr (World.rowIs.set h i _) (fun j _ => ?_)
  by_cases e : j = i
  · subst e; rw [if_pos rfl, upd_same]
  · rw [if_neg e, upd_other _ _ e]
theorem Rn.made (w : World) (n : Nat) : Rn (w.alloc (.cells (madeCells #[.int .i64 0] n) 3)) w.heap.size n (fun _ => 0) := World.rowIs_made w (.int .i64 0) n 3

def stA (ef : Nat → Nat) (i : Nat) : Nat → Nat
  | 0 => 0
  | j + 1 => cnt ef j i

theorem stA_step (ef : Nat → Nat) (i j : Nat) : upd (stA ef i) (ef i + 1) (stA ef i (ef i + 1) + 1) j = stA ef (i + 1) j := by
  cases j with
  | zero => rw [upd_other _ _ (by omega)]; rfl
  | succ j =>
    by_cases e : j = ef i
    · subst e; rw [upd_same]; simp [stA, cnt]
    · rw [upd_other _ _ (by omega)]
      have : ¬ ef i = j := fun h => e h.symm
      simp [stA, cnt, this]

def stB (ef : Nat → Nat) (k u j : Nat) : Nat := if j ≤ u then les ef j k else stA ef k j

theorem stB_start (ef : Nat → Nat) (k j : Nat) : stA ef k j = stB ef k 0 j := by
  unfold stB
  split
  · have : j = 0 := by omega
    subst this; rw [les_zero]; rfl
  · rfl

theorem stB_step (ef : Nat → Nat) (k u j : Nat) : upd (stB ef k u) (u + 1) (stB ef k u (u + 1) + stB ef k u u) j = stB ef k (u + 1) j := by
  by_cases e : j = u + 1
  · subst e
    rw [upd_same]
    have h1 : ¬ u + 1 ≤ u := by omega
    simp only [stB, h1, if_false, Nat.le_refl, if_true]
    rw [les_succ]
    simp only [stA]
    omega
  · rw [upd_other _ _ e]
    unfold stB
    by_cases h : j ≤ u
    · rw [if_pos h, if_pos (by omega)]
    · rw [if_neg h, if_neg (by omega)]

theorem stB_end (ef : Nat → Nat) (k j : Nat) (hj : j < 257) : stB ef k 256 j = les ef j k := by
  unfold stB
  rw [if_pos (by omega)]

structure RA (W w : World) (ef : Nat → Nat) (i : Nat) : Prop where
  bel : Below W.heap.size W w
  sz : w.heap.size = W.heap.size + 1
  st : Rn w W.heap.size 257 (stA ef i)

structure RB (W w : World) (ef : Nat → Nat) (k u : Nat) : Prop where
  bel : Below W.heap.size W w
  sz : w.heap.size = W.heap.size + 1
  st : Rn w W.heap.size 257 (stB ef k u)

theorem RA.start (W : World) (ef : Nat → Nat) : RA W (W.alloc (.cells (madeCells #[.int .i64 0] 257) 3)) ef 0 :=
  ⟨(Below.refl _ _).alloc (Nat.le_refl _) _, by simp, (Rn.made W 257).congr (fun i _ => by cases i <;> rfl)⟩

theorem RA.step {W w : World} {ef : Nat → Nat} {i : Nat} (h : RA W w ef i) (z : Int) (hz : z = ((stA ef i (ef i + 1) + 1 : Nat) : Int)) : RA W (w.setCell ⟨W.heap.size, ef i + 1, none⟩ (.int .i64 z)) ef (i + 1) :=
  ⟨h.bel.setCell (Nat.le_refl _) _, by simpa using h.sz, (h.st.set (ef i + 1) _ z hz).congr (fun j _ => stA_step ef i j)⟩

theorem RB.step {W w : World} {ef : Nat → Nat} {k u : Nat} (h : RB W w ef k u) (z : Int) (hz : z = ((stB ef k u (u + 1) + stB ef k u u : Nat) : Int)) : RB W (w.setCell ⟨W.heap.size, u + 1, none⟩ (.int .i64 z)) ef k (u + 1) :=
  ⟨h.bel.setCell (Nat.le_refl _) _, by simpa using h.sz, (h.st.set (u + 1) _ z hz).congr (fun j _ => stB_step ef k u j)⟩

theorem stA_le (ef : Nat → Nat) (i j : Nat) : stA ef i j ≤ i := by
  cases j with
  | zero => exact Nat.zero_le _
  | succ j => exact cnt_le ef j i

theorem stB_le (ef : Nat → Nat) (k u j : Nat) : stB ef k u j ≤ k := by
  unfold stB
  split
  · exact les_le _ _ _
  · exact stA_le _ _ _

/-- While the links are laid by source: i are laid, i' are counted. -/
structure RC (W w : World) (ef et : Nat → Nat) (k i i' : Nat) (a : Nat → Nat) : Prop where
  bel : Below W.heap.size W w
  sz : w.heap.size = W.heap.size + 3
  st : Rn w W.heap.size 257 (fun j => les ef j k)
  ad : Rn w (W.heap.size + 1) k a
  fl : Rn w (W.heap.size + 2) 256 (fun u => cnt ef u i')
  at_ : ∀ j, j < i → a (pos ef k j) = et j
  al : ∀ x, a x < 256

structure RB1 (W w : World) (ef : Nat → Nat) (k : Nat) : Prop where
  bel : Below W.heap.size W w
  sz : w.heap.size = W.heap.size + 2
  st : Rn w W.heap.size 257 (fun j => les ef j k)
  ad : Rn w (W.heap.size + 1) k (fun _ => 0)

theorem RB1.start {W w : World} {ef : Nat → Nat} {k : Nat} (h : RB W w ef k 256) : RB1 W (w.alloc (.cells (madeCells #[.int .i64 0] k) 3)) ef k := by
  have h1 := Rn.made w k
  rw [h.sz] at h1
  have hs := h.sz
  exact ⟨h.bel.alloc (by omega) _, by simp [hs], (h.st.congr (fun j hj => stB_end ef k j hj)).alloc _, h1⟩

theorem RC.start {W w : World} {ef : Nat → Nat} {k : Nat} (h : RB1 W w ef k) (et : Nat → Nat) : RC W (w.alloc (.cells (madeCells #[.int .i64 0] 256) 3)) ef et k 0 0 (fun _ => 0) := by
  have h2 := Rn.made w 256
  rw [h.sz] at h2
  have hs := h.sz
  exact ⟨h.bel.alloc (by omega) _, by simp [hs], h.st.alloc _, h.ad.alloc _, h2, fun j hj => absurd hj (Nat.not_lt_zero _), fun _ => by omega⟩

theorem RC.lay {W w : World} {ef et : Nat → Nat} {k i : Nat} {a : Nat → Nat} (h : RC W w ef et k i i a) (hi : i < k) (he : et i < 256) (p : Nat) (hp : p = pos ef k i) : RC W (w.setCell ⟨W.heap.size + 1, p, none⟩ (.int .i64 (et i : Int))) ef et k (i + 1) i (upd a p (et i)) := by
  subst hp
  refine ⟨h.bel.setCell (show W.heap.size ≤ W.heap.size + 1 by omega) _, by simpa using h.sz, h.st.other (show W.heap.size ≠ W.heap.size + 1 by omega) _, h.ad.set _ _ _ rfl, h.fl.other (show W.heap.size + 2 ≠ W.heap.size + 1 by omega) _, fun j hj => ?_, fun x => ?_⟩
  · by_cases e : j = i
    · subst e; exact upd_same _ _ _
    · rw [upd_other _ _ (pos_ne hi (by omega))]
      exact h.at_ j (by omega)
  · by_cases e : x = pos ef k i
    · rw [e, upd_same]; exact he
    · rw [upd_other _ _ e]; exact h.al x

theorem RC.count {W w : World} {ef et : Nat → Nat} {k i : Nat} {a : Nat → Nat} (h : RC W w ef et k (i + 1) i a) (z : Int) (hz : z = ((cnt ef (ef i) i + 1 : Nat) : Int)) : RC W (w.setCell ⟨W.heap.size + 2, ef i, none⟩ (.int .i64 z)) ef et k (i + 1) (i + 1) a := by
  refine ⟨h.bel.setCell (show W.heap.size ≤ W.heap.size + 2 by omega) _, by simpa using h.sz, h.st.other (show W.heap.size ≠ W.heap.size + 2 by omega) _, h.ad.other (show W.heap.size + 1 ≠ W.heap.size + 2 by omega) _, (h.fl.set _ _ z hz).congr (fun u _ => ?_), h.at_, h.al⟩
  by_cases e : u = ef i
  · subst e; rw [upd_same]; simp [cnt]
  · rw [upd_other _ _ e]
    have : ¬ ef i = u := fun h => e h.symm
    simp [cnt, this]

theorem RC.drew {W w : World} {ef et : Nat → Nat} {k i i' : Nat} {a : Nat → Nat} (h : RC W w ef et k i i' a) : RC W w.drew ef et k i i' a := ⟨h.bel.drew, h.sz, h.st, h.ad, h.fl, h.at_, h.al⟩

/-- While the search in breadth goes on. -/
structure RD (W w : World) (ef et : Nat → Nat) (k : Nat) (a : Nat → Nat) (rb : Nat → Bool) (qf : Nat → Nat) : Prop where
  bel : Below W.heap.size W w
  sz : w.heap.size = W.heap.size + 5
  st : Rn w W.heap.size 257 (fun j => les ef j k)
  ad : Rn w (W.heap.size + 1) k a
  re : w.rowIs (W.heap.size + 3) 4 65536 (fun x => .bool (rb x))
  qu : Rn w (W.heap.size + 4) 256 qf

structure RC1 (W w : World) (ef et : Nat → Nat) (k : Nat) (a : Nat → Nat) : Prop where
  bel : Below W.heap.size W w
  sz : w.heap.size = W.heap.size + 4
  st : Rn w W.heap.size 257 (fun j => les ef j k)
  ad : Rn w (W.heap.size + 1) k a
  re : w.rowIs (W.heap.size + 3) 4 65536 (fun x => .bool false)

theorem RC1.start {W w : World} {ef et : Nat → Nat} {k i i' : Nat} {a : Nat → Nat} (h : RC W w ef et k i i' a) : RC1 W (w.alloc (.cells (madeCells #[.bool false] 65536) 4)) ef et k a := by
  have h1 := World.rowIs_made w (.bool false) 65536 4
  rw [h.sz] at h1
  have hs := h.sz
  exact ⟨h.bel.alloc (by omega) _, by simp [hs], h.st.alloc _, h.ad.alloc _, h1⟩

theorem RD.start {W w : World} {ef et : Nat → Nat} {k : Nat} {a : Nat → Nat} (h : RC1 W w ef et k a) : RD W (w.alloc (.cells (madeCells #[.int .i64 0] 256) 3)) ef et k a (fun _ => false) (fun _ => 0) := by
  have h2 := Rn.made w 256
  rw [h.sz] at h2
  have hs := h.sz
  exact ⟨h.bel.alloc (by omega) _, by simp [hs], h.st.alloc _, h.ad.alloc _, h.re.alloc _, h2⟩

theorem RD.mark {W w : World} {ef et : Nat → Nat} {k : Nat} {a : Nat → Nat} {rb : Nat → Bool} {qf : Nat → Nat} (h : RD W w ef et k a rb qf) (x : Nat) : RD W (w.setCell ⟨W.heap.size + 3, x, none⟩ (.bool true)) ef et k a (upd rb x true) qf := by
  refine ⟨h.bel.setCell (show W.heap.size ≤ W.heap.size + 3 by omega) _, by simpa using h.sz, h.st.other (show W.heap.size ≠ W.heap.size + 3 by omega) _, h.ad.other (show W.heap.size + 1 ≠ W.heap.size + 3 by omega) _, (h.re.set x _).congr (fun j _ => ?_), h.qu.other (show W.heap.size + 4 ≠ W.heap.size + 3 by omega) _⟩
  by_cases e : j = x
  · subst e; rw [if_pos rfl, upd_same]
  · rw [if_neg e, upd_other _ _ e]

theorem RD.enq {W w : World} {ef et : Nat → Nat} {k : Nat} {a : Nat → Nat} {rb : Nat → Bool} {qf : Nat → Nat} (h : RD W w ef et k a rb qf) (t v : Nat) : RD W (w.setCell ⟨W.heap.size + 4, t, none⟩ (.int .i64 (v : Int))) ef et k a rb (upd qf t v) :=
  ⟨h.bel.setCell (show W.heap.size ≤ W.heap.size + 4 by omega) _, by simpa using h.sz, h.st.other (show W.heap.size ≠ W.heap.size + 4 by omega) _, h.ad.other (show W.heap.size + 1 ≠ W.heap.size + 4 by omega) _, h.re.setOther (show W.heap.size + 3 ≠ W.heap.size + 4 by omega) _, h.qu.set t v _ rfl⟩

/-- Sources below s are done, those above are untouched. -/
structure Out (ef et : Nat → Nat) (k s : Nat) (rb : Nat → Bool) : Prop where
  lo : ∀ s' t, s' < s → t < 256 → (rb (s' * 256 + t) = true ↔ Reach (nb ef et k) s' t)
  hi : ∀ s' t, s < s' → t < 256 → rb (s' * 256 + t) = false

/-- Source s has come to the queue q, h of it done. -/
structure Mid (ef et : Nat → Nat) (k s : Nat) (rb : Nat → Bool) (qf : Nat → Nat) (q : List Nat) (h : Nat) : Prop where
  out : Out ef et k s rb
  row : ∀ t, t < 256 → rb (s * 256 + t) = decide (t ∈ q)
  que : ∀ i u, q[i]? = some u → qf i = u
  bf : Bf ef et k s q h

theorem Out.upd {ef et : Nat → Nat} {k s : Nat} {rb : Nat → Bool} (h : Out ef et k s rb) {t : Nat} (ht : t < 256) : Out ef et k s (upd rb (s * 256 + t) true) :=
  ⟨fun s' t' hs ht' => by rw [upd_other _ _ (by omega)]; exact h.lo s' t' hs ht', fun s' t' hs ht' => by rw [upd_other _ _ (by omega)]; exact h.hi s' t' hs ht'⟩

theorem Mid.start {ef et : Nat → Nat} {k s : Nat} {rb : Nat → Bool} {qf : Nat → Nat} (h : Out ef et k s rb) (h0 : ∀ t, t < 256 → rb (s * 256 + t) = false) (hs : s < 256) : Mid ef et k s (upd rb (s * 256 + s) true) (upd qf 0 s) [s] 0 := by
  refine ⟨h.upd hs, fun t ht => ?_, fun i u hi => ?_, Bf.start ef et k hs⟩
  · by_cases e : t = s
    · subst e; rw [upd_same]; simp
    · rw [upd_other _ _ (by omega), h0 t ht]; simp [e]
  · cases i with
    | zero => simp at hi; subst hi; exact upd_same _ _ _
    | succ i => simp at hi

theorem Mid.push {ef et : Nat → Nat} {k s : Nat} {rb : Nat → Bool} {qf : Nat → Nat} {q : List Nat} {h u v : Nat} (M : Mid ef et k s rb qf q h) (hh : h < q.length) (hu : u ∈ q) (hv : v ∈ nb ef et k u) (hl : v < 256) (hn : v ∉ q) :
    Mid ef et k s (Go.Proofs.Qxb6000628a.upd rb (s * 256 + v) true) (Go.Proofs.Qxb6000628a.upd qf q.length v) (q ++ [v]) h := by
  refine ⟨M.out.upd hl, fun t ht => ?_, fun i w hi => ?_, M.bf.push hh hu hv hl hn⟩
  · by_cases e : t = v
    · subst e; rw [upd_same]; simp
    · rw [upd_other _ _ (by omega), M.row t ht]; simp [e]
  · by_cases e : i = q.length
    · subst e
      rw [List.getElem?_append_right (Nat.le_refl _)] at hi
      simp at hi
      subst hi
      exact upd_same _ _ _
    · rw [upd_other _ _ e]
      have hlt : i < (q ++ [v]).length := (List.getElem?_eq_some_iff.1 hi).1
      simp at hlt
      rw [List.getElem?_append_left (by omega)] at hi
      exact M.que i w hi

theorem Mid.done {ef et : Nat → Nat} {k s : Nat} {rb : Nat → Bool} {qf : Nat → Nat} {q : List Nat} (M : Mid ef et k s rb qf q q.length) : Out ef et k (s + 1) rb ∧ ∀ t, t < 256 → s + 1 < 256 → rb ((s + 1) * 256 + t) = false := by
  refine ⟨⟨fun s' t hs ht => ?_, fun s' t hs ht => M.out.hi s' t (by omega) ht⟩, fun t ht _ => M.out.hi (s + 1) t (by omega) ht⟩
  by_cases e : s' = s
  · subst e
    rw [M.row t ht, decide_eq_true_iff]
    exact M.bf.done t
  · exact M.out.lo s' t (by omega) ht

theorem run_make257 (w : World) : (Instr.makeSlice 32 (.int .i64 257) (.int .i64 257)).run Try.prog w = .ok (.slice (some ⟨w.heap.size, 0, none⟩) 257 257) (w.alloc (.cells (madeCells #[.int .i64 0] 257) 3)) :=
  run_make_row' (P := Try.prog) 32 3 (.int .i64 0) 8 Try.underlying32 Try.info3 rfl .i64 .i64 257 (by omega) (by omega) w
theorem run_make256 (w : World) : (Instr.makeSlice 32 (.int .i64 256) (.int .i64 256)).run Try.prog w = .ok (.slice (some ⟨w.heap.size, 0, none⟩) 256 256) (w.alloc (.cells (madeCells #[.int .i64 0] 256) 3)) :=
  run_make_row' (P := Try.prog) 32 3 (.int .i64 0) 8 Try.underlying32 Try.info3 rfl .i64 .i64 256 (by omega) (by omega) w
theorem run_makeN (n : Nat) (hn : n ≤ 4096) (w : World) : (Instr.makeSlice 32 (.int .i64 (n : Int)) (.int .i64 (n : Int))).run Try.prog w = .ok (.slice (some ⟨w.heap.size, 0, none⟩) n n) (w.alloc (.cells (madeCells #[.int .i64 0] n) 3)) :=
  run_make_row' (P := Try.prog) 32 3 (.int .i64 0) 8 Try.underlying32 Try.info3 rfl .i64 .i64 n (by omega) (by omega) w

/-- What zzReach answers. -/
def Rchd (W w' : World) (e : Ending) (ef et : Nat → Nat) (k : Nat) : Prop := ∃ (g : Nat) (rb : Nat → Bool), e = .returned (.slice (some ⟨g, 0, none⟩) 65536 65536) ∧ w'.rowIs g 4 65536 (fun x => .bool (rb x)) ∧ (∀ s t, s < 256 → t < 256 → (rb (s * 256 + t) = true ↔ Reach (nb ef et k) s t)) ∧ Below W.heap.size W w' ∧ W.heap.size ≤ g

set_option maxHeartbeats 4000000 in
set_option maxRecDepth 100000 in
theorem reach26 (W : World) (g1 c1 g2 c2 k : Nat) (ef et : Nat → Nat) (h1 : In3 W g1 k ef) (h2 : In3 W g2 k et) (hk : k ≤ 4096) :
    Calls Try.prog 26 #[.slice (some ⟨g1, 0, none⟩) k c1, .slice (some ⟨g2, 0, none⟩) k c2] W fun e w' => Rchd W w' e ef et k := by
  have m1 := run_make257
  have m2 := run_make256
  have m3 := run_makeN k hk
  have m4 := run_make48
  have b1 := h1.blk
  have b2 := h2.blk
  go_enter Try.func26, Try.ntmps26
  go_upto_region 2 with fail
  have R0 := hide (RA.start W ef)
  generalize W.alloc (.cells (madeCells #[.int .i64 0] 257) 3) = w0 at *
  go_wp2_with fail
  go_loopw [6] (fun ii wr => ∃ i : Nat, i ≤ k ∧ ii = .int .i64 i ∧ Hid (RA W wr ef i)) (fun ii _ => k - (intOf ii).toNat)
  case atStart => exact ⟨0, by omega, rfl, R0.out⟩
  case round =>
    clear R0
    obtain ⟨i, hi, rfl, R⟩ := hrel
    by_cases hlt : i < k
    · have y1 := (h1.below R.out.bel b1).cell i hlt
      have l1 := h1.lt i
      have z1 := R.out.st.cell (i := ef i + 1) (by omega)
      have z2 := R.out.st.frozen (ef i + 1)
      have z3 := stA_le ef i (ef i + 1)
      go_wp2_with fail
      go_roundw
      case rel => exact ⟨i + 1, by omega, by go_num, R.out.step _ (by omega)⟩
      case measure => simp [intOf]; omega
    · obtain rfl : i = k := by omega
      have R1 : Hid (RB W wr ef i 0) := ⟨R.out.bel, R.out.sz, R.out.st.congr (fun j _ => stB_start ef i j)⟩
      clear R
      generalize wr = wA at *
      go_upto_region 6 with fail
      go_wp2_with fail
      go_loopw [7] (fun ii wr => ∃ u : Nat, u ≤ 256 ∧ ii = .int .i64 u ∧ Hid (RB W wr ef i u)) (fun ii _ => 256 - (intOf ii).toNat)
      case atStart => exact ⟨0, by omega, rfl, R1.out⟩
      case round =>
        clear R1
        obtain ⟨u, hu, rfl, R⟩ := hrel
        by_cases hlt : u < 256
        · have z1 := R.out.st.cell (i := u + 1) (by omega)
          have z2 := R.out.st.cell (i := u) (by omega)
          have z3 : wr.drew.frozen? ⟨W.heap.size, u + 1, none⟩ = false := R.out.st.frozen (u + 1)
          have z6 : wr.drew.cell? ⟨W.heap.size, u + 1, none⟩ = some (.int .i64 (stB ef i u (u + 1) : Int)) := z1
          have z4 := stB_le ef i u (u + 1)
          have z5 := stB_le ef i u u
          have R2 : Hid (RB W wr.drew ef i u) := ⟨R.out.bel.drew, R.out.sz, R.out.st⟩
          clear R
          go_wp2_with fail
          go_region
          go_wp2_with fail
          go_roundw
          case rel => exact ⟨u + 1, by omega, by go_num, R2.out.step _ (by omega)⟩
          case measure => simp [intOf]; omega
        · obtain rfl : u = 256 := by omega
          have hB := hide (RB1.start R.out)
          have hs0 := R.out.sz
          clear R
          go_upto_region 11 with fail
          generalize wr.alloc (.cells (madeCells #[.int .i64 0] i) 3) = w3 at *
          have hC := hide (RC.start hB.out et)
          have hs3 := hB.out.sz
          clear hB hs0
          go_upto_region 12 with fail
          generalize w3.alloc (.cells (madeCells #[.int .i64 0] 256) 3) = w4 at *
          clear hs3
          go_wp2_with fail
          go_loopw [10] (fun ii wr => ∃ j : Nat, j ≤ i ∧ ii = .int .i64 j ∧ ∃ a, Hid (RC W wr ef et i j j a)) (fun ii _ => i - (intOf ii).toNat)
          case atStart => exact ⟨0, by omega, rfl, _, hC.out⟩
          case round =>
            clear hC
            obtain ⟨j, hj, rfl, a, R⟩ := hrel
            by_cases hlt : j < i
            · have y1 := (h1.below R.out.bel b1).cell j hlt
              have y2 := (h2.below R.out.bel b2).cell j hlt
              have l1 := h1.lt j
              have l2 := h2.lt j
              have hp := pos_lt (ef := ef) hlt
              have hpe : les ef (ef j) i + cnt ef (ef j) j = pos ef i j := rfl
              have z1 := R.out.st.cell (i := ef j) (by omega)
              have z2 := R.out.fl.cell (i := ef j) (by omega)
              have z3 := R.out.ad.cell (i := les ef (ef j) i + cnt ef (ef j) j) (by omega)
              have z4 := R.out.ad.frozen (les ef (ef j) i + cnt ef (ef j) j)
              have z5 := les_le ef (ef j) i
              have z6 := cnt_le ef (ef j) j
              have z7 : (les ef (ef j) i : Int) + (cnt ef (ef j) j : Int) < (i : Int) := by omega
              have z8 : les ef (ef j) i + cnt ef (ef j) j < i := by omega
              have R3 := hide (R.out.lay hlt l2 (les ef (ef j) i + cnt ef (ef j) j) hpe).drew
              clear hpe hp
              go_upto_region 16 with fail
              go_region
              clear z1 z2 z3 z4 z7 z8 y1 y2 R
              generalize (wr.setCell ⟨W.heap.size + 1, les ef (ef j) i + cnt ef (ef j) j, none⟩ (.int .i64 (et j : Int))).drew = w5 at *
              have z2 := R3.out.fl.cell (i := ef j) (by omega)
              have z3 := R3.out.fl.frozen (ef j)
              go_wp2_with fail
              go_roundw
              case rel => exact ⟨j + 1, by omega, by go_num, _, R3.out.count _ (by omega)⟩
              case measure => simp [intOf]; omega
            · obtain rfl : j = i := by omega
              have hcs : Csr ef et j a := ⟨R.out.at_⟩
              have hal := R.out.al
              have hB := hide (RC1.start R.out)
              have hs0 := R.out.sz
              clear R
              go_upto_region 19 with fail
              generalize wr.alloc (.cells (madeCells #[.bool false] 65536) 4) = w5 at *
              have hD := hide (RD.start hB.out)
              have hs3 := hB.out.sz
              clear hB hs0
              go_upto_region 20 with fail
              generalize w5.alloc (.cells (madeCells #[.int .i64 0] 256) 3) = w6 at *
              clear hs3
              go_wp2_with fail
              go_loopw [14] (fun ss wr => ∃ s : Nat, s ≤ 256 ∧ ss = .int .i64 s ∧ ∃ rb qf, Hid (RD W wr ef et j a rb qf) ∧ Hid (Out ef et j s rb) ∧ Hid (∀ t, t < 256 → s < 256 → rb (s * 256 + t) = false)) (fun ss _ => 256 - (intOf ss).toNat)
              case atStart => exact ⟨0, by omega, rfl, _, _, hD.out, ⟨fun s' t hs => absurd hs (Nat.not_lt_zero _), fun _ _ _ _ => rfl⟩, fun _ _ _ => rfl⟩
              case round =>
                clear hD
                obtain ⟨s, hs, rfl, rb, qf, D, O, O0⟩ := hrel
                by_cases hlt : s < 256
                · have x1 := idx48 (W.heap.size + 3) (s * 256 + s) (by omega) ((s : Int) * 256 + (s : Int)) (by omega)
                  have z1 := D.out.re.cell (i := s * 256 + s) (by omega)
                  have z2 := D.out.re.frozen (s * 256 + s)
                  have D2 := hide (D.out.mark (s * 256 + s))
                  clear D
                  go_upto_region 24 with fail
                  clear z1 z2 x1
                  generalize wr.setCell ⟨W.heap.size + 3, s * 256 + s, none⟩ (.bool true) = w7 at *
                  have z1 := D2.out.qu.cell (i := 0) (by omega)
                  have z2 := D2.out.qu.frozen 0
                  have D3 := hide (D2.out.enq 0 s)
                  clear D2
                  go_upto_region 25 with fail
                  clear z1 z2
                  generalize w7.setCell ⟨W.heap.size + 4, 0, none⟩ (.int .i64 (s : Int)) = w8 at *
                  have M0 := hide (Mid.start (qf := qf) O.out (fun t ht => O0.out t ht hlt) hlt)
                  clear O O0
                  go_wp2_with fail
                  go_loopw [15, 16] (fun tt hh wr => ∃ L h : Nat, tt = .int .i64 L ∧ hh = .int .i64 h ∧ h ≤ L ∧ L ≤ 256 ∧ ∃ q rb qf, Hid (q.length = L) ∧ Hid (RD W wr ef et j a rb qf) ∧ Hid (Mid ef et j s rb qf q h)) (fun _ hh _ => 256 - (intOf hh).toNat)
                  case atStart => exact ⟨1, 0, rfl, rfl, by omega, by omega, [s], _, _, rfl, D3.out, M0.out⟩
                  case round =>
                    clear D3 M0
                    obtain ⟨L, h, rfl, rfl, hhL, hL, q, rb, qf, hq, D, M⟩ := hrel
                    by_cases hlt2 : h < L
                    · obtain ⟨u, hu⟩ : ∃ u, q[h]? = some u := ⟨_, List.getElem?_eq_getElem (show h < q.length by rw [hq.out]; exact hlt2)⟩
                      have hqu := M.out.que h u hu
                      have hul : u < 256 := M.out.bf.lt u (List.mem_of_getElem? hu)
                      have z1 := D.out.qu.cell (i := h) (by omega)
                      rw [hqu] at z1
                      have z2 := D.out.st.cell (i := u) (by omega)
                      have t1 := les_le ef u j
                      have t2 := les_le ef (u + 1) j
                      have t3 := les_mono ef j (show u ≤ u + 1 by omega)
                      have Hu := hide hu
                      have D4 := hide D.out
                      have M4 := hide M.out
                      clear hqu hu
                      go_wp2_with fail
                      go_loopw [15, 18] (fun tt kk wr => ∃ L x : Nat, tt = .int .i64 L ∧ kk = .int .i64 x ∧ les ef u j ≤ x ∧ x ≤ les ef (u + 1) j ∧ h < L ∧ L ≤ 256 ∧ ∃ q rb qf, Hid (q.length = L) ∧ Hid (q[h]? = some u) ∧ Hid (RD W wr ef et j a rb qf) ∧ Hid (Mid ef et j s rb qf q h) ∧ Hid (∀ x', les ef u j ≤ x' → x' < x → a x' ∈ q)) (fun _ kk _ => les ef (u + 1) j - (intOf kk).toNat)
                      case atStart => exact ⟨L, les ef u j, rfl, rfl, by omega, by omega, by omega, by omega, q, rb, qf, hq.out, Hu.out, D4.out, M4.out, fun x' h1 h2 => by omega⟩
                      case round =>
                        clear D4 M4 D M hq Hu z1 z2 hhL hL hlt2
                        obtain ⟨L, x, rfl, rfl, hx1, hx2, hhL, hL, q, rb, qf, hq, Hu, D, M, A⟩ := hrel
                        have z0 := D.out.st.cell (i := u + 1) (by omega)
                        by_cases hlt3 : x < les ef (u + 1) j
                        · have z1 := D.out.ad.cell (i := x) (by omega)
                          obtain ⟨v, hv⟩ : ∃ v, a x = v := ⟨_, rfl⟩
                          have hvl : v < 256 := by rw [← hv]; exact hal x
                          rw [hv] at z1
                          have x1 := idx48 (W.heap.size + 3) (s * 256 + v) (by omega) ((s : Int) * 256 + (v : Int)) (by omega)
                          have z2 := D.out.re.cell (i := s * 256 + v) (by omega)
                          rw [M.out.row v hvl] at z2
                          have z3 := D.out.re.frozen (s * 256 + v)
                          by_cases hm : v ∈ q
                          · rw [decide_eq_true hm] at z2
                            have Hm := hide hm
                            have Hv := hide hv
                            clear hm hv
                            go_wp2_with fail
                            go_roundw
                            case rel => exact ⟨L, x + 1, rfl, by go_num, by omega, by omega, by omega, by omega, q, rb, qf, hq.out, Hu.out, D.out, M.out, fun x' h1 h2 => by
                                by_cases e : x' = x
                                · rw [e, Hv.out]; exact Hm.out
                                · exact A.out x' h1 (by omega)⟩
                            case measure => simp [intOf]; omega
                          · rw [decide_eq_false hm] at z2
                            have hnb : v ∈ nb ef et j u := by
                              obtain ⟨jj, h1, h2, h3⟩ := hcs.find hx1 hlt3
                              exact mem_nb.2 ⟨jj, h1, h2, by rw [← h3, hv]⟩
                            have M2 := hide (M.out.push (by rw [hq.out]; exact hhL) (List.mem_of_getElem? Hu.out) hnb hvl hm)
                            have hlen : L + 1 ≤ 256 := by
                              have := M2.out.bf.len
                              simp [hq.out] at this
                              omega
                            rw [hq.out] at M2
                            have D2 := hide (D.out.mark (s * 256 + v))
                            have Hv := hide hv
                            clear hm hv hnb M D
                            go_upto_region 36 with fail
                            clear z0 z1 z2 z3 x1
                            generalize wr.setCell ⟨W.heap.size + 3, s * 256 + v, none⟩ (.bool true) = w9 at *
                            have z1 := D2.out.qu.cell (i := L) (by omega)
                            have z2 := D2.out.qu.frozen L
                            have D3 := hide (D2.out.enq L v)
                            clear D2
                            go_wp2_with fail
                            go_roundw
                            case rel => exact ⟨L + 1, x + 1, by go_num, by go_num, by omega, by omega, by omega, by omega, q ++ [v], _, _, by show _ = _; simp [hq.out], by show _ = _; rw [List.getElem?_append_left (by rw [hq.out]; exact hhL)]; exact Hu.out, D3.out, M2.out, fun x' h1 h2 => by
                                by_cases e : x' = x
                                · rw [e, Hv.out]; simp
                                · exact List.mem_append.2 (.inl (A.out x' h1 (by omega)))⟩
                            case measure => simp [intOf]; omega
                        · obtain rfl : x = les ef (u + 1) j := by omega
                          have M2 : Hid (Mid ef et j s rb qf q (h + 1)) := ⟨M.out.out, M.out.row, M.out.que, M.out.bf.next Hu.out (fun v hv => by
                            obtain ⟨jj, h1, h2, h3⟩ := mem_nb.1 hv
                            have := A.out (pos ef j jj) (by unfold pos; rw [h2]; omega) (by have := pos_hi (ef := ef) h1; rw [h2] at this; exact this)
                            rw [hcs.at_ jj h1, h3] at this
                            exact this)⟩
                          clear M A
                          go_wp2_with fail
                          go_roundw
                          case rel => exact ⟨L, h + 1, rfl, by go_num, by omega, by omega, q, rb, qf, hq.out, D.out, M2.out⟩
                          case measure => simp [intOf]; omega
                    · obtain rfl : h = L := by omega
                      have hM : Mid ef et j s rb qf q q.length := by rw [hq.out]; exact M.out
                      have O2 := hide hM.done
                      clear hM M
                      go_wp2_with fail
                      go_roundw
                      case rel => exact ⟨s + 1, by omega, by go_num, rb, qf, D.out, O2.out.1, O2.out.2⟩
                      case measure => simp [intOf]; omega
                · obtain rfl : s = 256 := by omega
                  go_wp2_with fail
                  go_ret
                  exact ⟨_, rb, rfl, D.out.re, fun s t hs ht => O.out.lo s t hs ht, D.out.bel, by omega⟩

end Go.Proofs.Qxb6000628a
