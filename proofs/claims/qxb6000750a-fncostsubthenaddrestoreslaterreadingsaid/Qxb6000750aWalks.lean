/-
  The walks over prepledge's Cost: zzCost, Add, Sub. Plain facts on unsigned words by 'omega'. Each contract takes its result's three numbers as arguments, with what they are as premises: so a law hands in the numbers that its own arithmetic gives.
-/
import Derived.Test.Qxb6000750aRows
import Derived.WalkKit
import Derived.WalkSpells
import Derived.StillTactics
import Derived.Laws.Pointers
import Derived.Deep.RegionHeld3
import Derived.RowKit3
namespace Go.Proofs.Qxb6000750a
open Go.RowKit

def Word (x : Int) : Prop := 0 ≤ x ∧ x < 18446744073709551616
theorem wrap_u64 (x : Int) : IntKind.u64.wrap x = x % 18446744073709551616 := by
  simp [IntKind.wrap, IntKind.bits, IntKind.signed]

theorem cost_any (m l f : Int) (w : World) :
    Calls Try.prog 7 #[.int .u64 m, .int .u64 l, .int .u64 f] w fun e w' =>
      e = .returned (.agg #[.int .u64 m, .int .u64 l, .int .u64 f]) ∧ ∃ c1 : Array Value, w' = w.alloc (.cells c1 24) := by
  go_enter Try.func7, Try.ntmps7
  go_wp2
  simp [bodyPost, results, Try.results7, go_sem]
  exact ⟨_, rfl⟩

theorem add_to (cm cl cf dm dl df rm rl rf : Int) (h1 : Word cm) (h2 : Word cl) (h3 : Word cf) (h4 : Word dm) (h5 : Word dl) (h6 : Word df)
    (hm : rm = (cm + dm) % 18446744073709551616) (hl : rl = (cl + dl) % 18446744073709551616) (hf : rf = (cf + df) % 18446744073709551616) (w : World) :
    Calls Try.prog 8 #[.agg #[.int .u64 cm, .int .u64 cl, .int .u64 cf], .agg #[.int .u64 dm, .int .u64 dl, .int .u64 df]] w fun e w' =>
      e = .returned (.agg #[.int .u64 rm, .int .u64 rl, .int .u64 rf]) ∧ ∃ c1 c2 c3 : Array Value, w' = ((w.alloc (.cells c1 24)).alloc (.cells c2 24)).alloc (.cells c3 24) := by
  obtain ⟨a1, a2⟩ := h1; obtain ⟨b1, b2⟩ := h2; obtain ⟨c1, c2⟩ := h3; obtain ⟨d1, d2⟩ := h4; obtain ⟨e1, e2⟩ := h5; obtain ⟨f1, f2⟩ := h6
  rw [← wrap_u64] at hm hl hf
  subst hm hl hf
  go_enter Try.func8, Try.ntmps8
  go_wp2
  simp [bodyPost, results, Try.results8, go_sem]
  exact ⟨_, _, _, rfl⟩

theorem sub_to (cm cl cf dm dl df rm rl rf : Int) (h1 : Word cm) (h2 : Word cl) (h3 : Word cf) (h4 : Word dm) (h5 : Word dl) (h6 : Word df)
    (hm : rm = if dm < cm then cm - dm else 0) (hl : rl = (cl - dl) % 18446744073709551616) (hf : rf = (cf - df) % 18446744073709551616) (w : World) :
    Calls Try.prog 9 #[.agg #[.int .u64 cm, .int .u64 cl, .int .u64 cf], .agg #[.int .u64 dm, .int .u64 dl, .int .u64 df]] w fun e w' =>
      e = .returned (.agg #[.int .u64 rm, .int .u64 rl, .int .u64 rf]) ∧ ∃ c1 c2 c3 : Array Value, w' = ((w.alloc (.cells c1 24)).alloc (.cells c2 24)).alloc (.cells c3 24) := by
  obtain ⟨a1, a2⟩ := h1; obtain ⟨b1, b2⟩ := h2; obtain ⟨c1, c2⟩ := h3; obtain ⟨d1, d2⟩ := h4; obtain ⟨e1, e2⟩ := h5; obtain ⟨f1, f2⟩ := h6
  rw [← wrap_u64] at hl hf
  by_cases h : dm < cm
  · rw [if_pos h] at hm
    subst hm hl hf
    go_enter Try.func9, Try.ntmps9
    go_wp2
    simp [bodyPost, results, Try.results9, go_sem]
    exact ⟨_, _, _, rfl⟩
  · rw [if_neg h] at hm
    subst hm hl hf
    go_enter Try.func9, Try.ntmps9
    go_wp2
    simp [bodyPost, results, Try.results9, go_sem]
    exact ⟨_, _, _, rfl⟩

end Go.Proofs.Qxb6000750a
