/-
  zzLinksPremise, zzFirstOf.
-/
import Derived.Test.Qxb6000628aStrs
set_option linter.unusedVariables false
namespace Go.Proofs.Qxb6000628a
open Go.RowKit

/-- The world but for draws. -/
def Dr (w w' : World) : Prop := ∃ m, w' = w.drewN m
theorem Dr.refl (w : World) : Dr w w := ⟨0, rfl⟩
theorem Dr.step {w w' : World} (h : Dr w w') (n : Nat) : Dr w (w'.drewN n) := by
  obtain ⟨m, rfl⟩ := h
  exact ⟨m + n, by simp⟩
theorem Dr.cell {w w' : World} (h : Dr w w') (a : Addr) : w'.cell? a = w.cell? a := by
  obtain ⟨m, rfl⟩ := h; rfl
theorem Dr.below {w w' : World} (h : Dr w w') (B : Nat) : Below B w w' := by
  obtain ⟨m, rfl⟩ := h
  exact below_drewN (Below.refl _ _) m

/-- Strings compared. -/
theorem str_yes {a b : ByteArray} (h : a = b) : (a.toList == b.toList) = true := by rw [h]; simp
theorem str_no {a b : ByteArray} (h : ¬ a = b) : (a.toList == b.toList) = false := by
  cases hb : (a.toList == b.toList) with
  | false => rfl
  | true =>
    exfalso
    apply h
    have e : a.toList = b.toList := by simpa using hb
    rw [ByteArray.toList_eq, ByteArray.toList_eq] at e
    exact Go.WideShapes.bytes_inj e

/-- No link twice. -/
def Dist (f f' : Nat → ByteArray) (n : Nat) : Prop := ∀ i, i < n → ∀ j, j < i → ¬ (f j = f i ∧ f' j = f' i)
def DistAt (f f' : Nat → ByteArray) (i k : Nat) : Prop := ∀ j, j < k → ¬ (f j = f i ∧ f' j = f' i)
theorem DistAt.succ {f f' : Nat → ByteArray} {i k : Nat} (h : DistAt f f' i k) (hk : ¬ (f k = f i ∧ f' k = f' i)) : DistAt f f' i (k + 1) := fun j hj => by
  by_cases e : j = k
  · subst e; exact hk
  · exact h j (by omega)
theorem Dist.succ {f f' : Nat → ByteArray} {i : Nat} (h : Dist f f' i) (hk : DistAt f f' i i) : Dist f f' (i + 1) := fun a ha => by
  by_cases e : a = i
  · subst e; exact hk
  · exact h a (by omega)

/-- What the premise says of its answer. -/
def Prem (f f' : Nat → ByteArray) (n m : Nat) (e : Ending) : Prop := ∃ b, e = .returned (.bool b) ∧ (b = true → n = m ∧ Dist f f' n)
theorem Prem.no (f f' : Nat → ByteArray) (n m : Nat) : Prem f f' n m (.returned (.bool false)) := ⟨false, rfl, fun h => by cases h⟩

set_option maxHeartbeats 2000000 in
set_option maxRecDepth 100000 in
theorem premise_any (X Y : Option Addr) (n c m d : Nat) (ad ad' : Nat → Addr) (f f' : Nat → ByteArray) (w : World) (h : StrIn w X n c ad f) (h' : StrIn w Y m d ad' f') :
    Calls Try.prog 11 #[.slice X n c, .slice Y m d] w fun e w' => Prem f f' n m e ∧ Dr w w' := by
  have hlen := h.len
  have hlen' := h'.len
  by_cases hnm : n = m
  case neg =>
    have hb : ((n : Int) != (m : Int)) = true := by rw [bne_iff_ne]; omega
    go_enter Try.func11, Try.ntmps11
    go_wp2_with fail
    go_ret
    exact ⟨Prem.no _ _ _ _, Dr.refl _⟩
  subst hnm
  go_enter Try.func11, Try.ntmps11
  go_wp2_with fail
  go_loopw [5] (fun i wr => ∃ k : Nat, k ≤ n ∧ i = .int .i64 k ∧ Dist f f' k ∧ Dr w wr) (fun i _ => n - (intOf i).toNat)
  case atStart => exact ⟨0, by omega, rfl, fun i hi => by omega, Dr.refl _⟩
  case round =>
    obtain ⟨i, hi, rfl, hD, hdr⟩ := hrel
    by_cases hlt : i < n
    · go_wp2_with fail
      go_loopw [6] (fun j wr' => ∃ k : Nat, k ≤ i ∧ j = .int .i64 k ∧ DistAt f f' i k ∧ Dr w wr') (fun j _ => i - (intOf j).toNat)
      case atStart => exact ⟨0, by omega, rfl, fun j hj => by omega, hdr⟩
      case round =>
        obtain ⟨j, hj, rfl, hA, hdr'⟩ := hrel
        clear hdr
        by_cases hj1 : j < i
        · have x1 := h.idx j (by omega)
          have x2 := h.idx i hlt
          have x3 := h'.idx j (by omega)
          have x4 := h'.idx i hlt
          have y1 : wr.cell? (ad j) = some (.string (f j)) := (hdr'.cell _).trans (h.cell j (by omega))
          have y2 : wr.cell? (ad i) = some (.string (f i)) := (hdr'.cell _).trans (h.cell i hlt)
          have y3 : wr.cell? (ad' j) = some (.string (f' j)) := (hdr'.cell _).trans (h'.cell j (by omega))
          have y4 : wr.cell? (ad' i) = some (.string (f' i)) := (hdr'.cell _).trans (h'.cell i hlt)
          by_cases e1 : f j = f i
          · have b1 := str_yes e1
            by_cases e2 : f' j = f' i
            · have b2 := str_yes e2
              clear e1 e2
              go_wp2_with fail
              go_quiet (fail)
              go_wp2_with fail
              go_ret
              exact ⟨Prem.no _ _ _ _, hdr'.step nq⟩
            · have b2 := str_no e2
              have hA' := hide (hA.succ (fun x => e2 x.2))
              clear e1 e2
              go_wp2_with fail
              go_quiet (fail)
              go_wp2_with fail
              go_roundw
              case rel => exact ⟨j + 1, by omega, by go_num, hA'.out, hdr'.step nq⟩
              case measure => simp [intOf]; omega
          · have b1 := str_no e1
            have hA' := hide (hA.succ (fun x => e1 x.1))
            clear e1
            go_wp2_with fail
            go_quiet (fail)
            go_wp2_with fail
            go_roundw
            case rel => exact ⟨j + 1, by omega, by go_num, hA'.out, hdr'.step nq⟩
            case measure => simp [intOf]; omega
        · have hji : j = i := by omega
          have hA' := hide (hD.succ (by subst hji; exact hA))
          go_wp2_with fail
          go_roundw
          case rel => exact ⟨i + 1, by omega, by go_num, hA'.out, hdr'⟩
          case measure => simp [intOf]; omega
    · have hD' := hide hD
      go_wp2_with fail
      go_ret
      refine ⟨⟨true, rfl, fun _ => ⟨rfl, ?_⟩⟩, hdr⟩
      have : i = n := by omega
      subst this
      exact hD

/-- i is the first of its name. -/
def First (f : Nat → ByteArray) (i : Nat) : Prop := ∀ j, j < i → ¬ f j = f i
/-- What zzFirstOf says. -/
def FirstB (f : Nat → ByteArray) (i : Nat) (e : Ending) : Prop := (e = .returned (.bool true) ∧ First f i) ∨ (e = .returned (.bool false) ∧ ¬ First f i)

set_option maxHeartbeats 1000000 in
set_option maxRecDepth 100000 in
theorem first_any (X : Option Addr) (n c : Nat) (ad : Nat → Addr) (f : Nat → ByteArray) (i : Nat) (hi : i < n) (w : World) (h : StrIn w X n c ad f) :
    Calls Try.prog 16 #[.slice X n c, .int .i64 i] w fun e w' => FirstB f i e ∧ Dr w w' := by
  have hlen := h.len
  go_enter Try.func16, Try.ntmps16
  go_wp2_with fail
  go_loopw [5] (fun j wr => ∃ k : Nat, k ≤ i ∧ j = .int .i64 k ∧ (∀ a, a < k → ¬ f a = f i) ∧ Dr w wr) (fun j _ => i - (intOf j).toNat)
  case atStart => exact ⟨0, by omega, rfl, fun a ha => by omega, Dr.refl _⟩
  case round =>
    obtain ⟨j, hj, rfl, hA, hdr⟩ := hrel
    have HA := hide hA
    clear hA
    by_cases hj1 : j < i
    · have x1 := h.idx j (by omega)
      have x2 := h.idx i hi
      have y1 : wr.cell? (ad j) = some (.string (f j)) := (hdr.cell _).trans (h.cell j (by omega))
      have y2 : wr.cell? (ad i) = some (.string (f i)) := (hdr.cell _).trans (h.cell i hi)
      by_cases e1 : f j = f i
      · have b1 := str_yes e1
        have He := hide e1
        clear e1
        go_wp2_with fail
        go_quiet (fail)
        go_wp2_with fail
        go_ret
        exact ⟨.inr ⟨rfl, fun hF => hF j hj1 He.out⟩, hdr.step nq⟩
      · have b1 := str_no e1
        have He := hide e1
        clear e1
        go_wp2_with fail
        go_quiet (fail)
        go_wp2_with fail
        go_roundw
        case rel =>
          refine ⟨j + 1, by omega, by go_num, fun a ha => ?_, hdr.step nq⟩
          by_cases e : a = j
          · subst e; exact He.out
          · exact HA.out a (by omega)
        case measure => simp [intOf]; omega
    · go_wp2_with fail
      go_ret
      refine ⟨.inl ⟨rfl, ?_⟩, hdr⟩
      have : j = i := by omega
      subst this
      exact HA.out

end Go.Proofs.Qxb6000628a
