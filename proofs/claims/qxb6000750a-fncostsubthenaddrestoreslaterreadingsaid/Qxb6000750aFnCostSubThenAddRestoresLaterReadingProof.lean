/-
  A proof of 'Rows.FnCostSubThenAddRestoresLaterReadingSaid'. The frame was written by the kit's own shell tool; the walk is ours.
-/
import Derived.Test.Qxb6000750aRows
import Derived.WalkKit
import Derived.ProofKit
import Derived.OpenShut
import Derived.ShutString
import Derived.Test.Qxb6000750aWalks
namespace Go.Proofs.Qxb6000750a.fnCostSubThenAddRestoresLaterReading
open Go.ChangeShapes Go.WideShapes Go.ChangeAt Go.RowKit
open Go.ChangeMaps (open_string shut_string)
set_option linter.unusedVariables false      -- a walk need not use every 'w<i>' (that an integer argument fits its kind)

theorem own : ownKnob Try.prog.godebug = none := by kernel_rfl

/-! ### STEP 1: THE WALK: the Go text returns true. 'Grown w w'': the world has at most new blocks (Derived/RowKit3.lean). Part the cases AHEAD of 'go_enter' where a test parts the walk; take each callee by a contract of your own. -/
set_option maxHeartbeats 1600000 in
theorem walk (a0 : Int) (a1 : Int) (a2 : Int) (a3 : Int) (a4 : Int) (a5 : Int) (w0 : (Lit.int .u64 a0).wf = true) (w1 : (Lit.int .u64 a1).wf = true) (w2 : (Lit.int .u64 a2).wf = true) (w3 : (Lit.int .u64 a3).wf = true) (w4 : (Lit.int .u64 a4).wf = true) (w5 : (Lit.int .u64 a5).wf = true) (w : World) :
    Calls Try.prog 4 #[.int .u64 a0, .int .u64 a1, .int .u64 a2, .int .u64 a3, .int .u64 a4, .int .u64 a5] w fun e w' => e = .returned (.bool true) ∧ Grown w w' := by
  have b0 := bounds_u64 w0; have b1 := bounds_u64 w1; have b2 := bounds_u64 w2
  have b3 := bounds_u64 w3; have b4 := bounds_u64 w4; have b5 := bounds_u64 w5
  clear w0 w1 w2 w3 w4 w5
  have W0 : Word a0 := ⟨by omega, by omega⟩; have W1 : Word a1 := ⟨by omega, by omega⟩; have W2 : Word a2 := ⟨by omega, by omega⟩
  have W3 : Word a3 := ⟨by omega, by omega⟩; have W4 : Word a4 := ⟨by omega, by omega⟩; have W5 : Word a5 := ⟨by omega, by omega⟩
  obtain ⟨sl, Hl⟩ : ∃ x, Hid (x = (a1 - a4) % 18446744073709551616) := ⟨_, rfl⟩
  obtain ⟨sf, Hf⟩ : ∃ x, Hid (x = (a2 - a5) % 18446744073709551616) := ⟨_, rfl⟩
  have Wl : Word sl := by have := Hl.out; exact ⟨by omega, by omega⟩
  have Wf : Word sf := by have := Hf.out; exact ⟨by omega, by omega⟩
  have Hl' : Hid (a1 = (a4 + sl) % 18446744073709551616) := by
    show a1 = _
    have := Hl.out; omega
  have Hf' : Hid (a2 = (a5 + sf) % 18446744073709551616) := by
    show a2 = _
    have := Hf.out; omega
  obtain ⟨sm, Hm⟩ : ∃ x, Hid (x = if a3 < a0 then a0 - a3 else 0) := ⟨_, rfl⟩
  have Wm : Word sm := by
    have := Hm.out
    split at this <;> exact ⟨by omega, by omega⟩
  have hge : 0 ≤ sm := Wm.1
  have hle : ¬ a0 < sm := by
    have := Hm.out
    split at this <;> omega
  by_cases hc : a0 < a3
  · have Hm' : Hid (a3 = (a3 + sm) % 18446744073709551616) := by
      show a3 = _
      have := Hm.out
      split at this <;> omega
    have hq : (sm == 0) = true := by
      have := Hm.out
      rw [beq_iff_eq]
      split at this <;> omega
    have hr : decide (a0 ≤ a3) = true := by simp; omega
    go_enter Try.func4, Try.ntmps4
    go_wp2_with (first
      | (go_at_call 7; refine (cost_any _ _ _ _).mono ?_; rintro e w' ⟨rfl, c1, rfl⟩)
      | (go_at_call 9; refine (sub_to a0 a1 a2 a3 a4 a5 sm sl sf W0 W1 W2 W3 W4 W5 Hm.out Hl.out Hf.out _).mono ?_; rintro e w' ⟨rfl, o1, o2, o3, rfl⟩)
      | (go_at_call 8; refine (add_to a3 a4 a5 sm sl sf a3 a1 a2 W3 W4 W5 Wm Wl Wf Hm'.out Hl'.out Hf'.out _).mono ?_; rintro e w' ⟨rfl, o1, o2, o3, rfl⟩))
    go_ret
    exact ⟨rfl, by repeat (first | with_reducible exact Grown.refl _ | with_reducible apply Grown.alloc | with_reducible apply Grown.drew)⟩
  · have Hm' : Hid (a0 = (a3 + sm) % 18446744073709551616) := by
      show a0 = _
      have := Hm.out
      split at this <;> omega
    by_cases hd : a3 = a0
    · subst hd
      have hq : (sm == 0) = true := by
        have := Hm.out
        rw [beq_iff_eq]
        split at this <;> omega
      go_enter Try.func4, Try.ntmps4
      go_wp2_with (first
        | (go_at_call 7; refine (cost_any _ _ _ _).mono ?_; rintro e w' ⟨rfl, c1, rfl⟩)
        | (go_at_call 9; refine (sub_to a3 a1 a2 a3 a4 a5 sm sl sf W3 W1 W2 W3 W4 W5 Hm.out Hl.out Hf.out _).mono ?_; rintro e w' ⟨rfl, o1, o2, o3, rfl⟩)
        | (go_at_call 8; refine (add_to a3 a4 a5 sm sl sf a3 a1 a2 W3 W4 W5 Wm Wl Wf Hm'.out Hl'.out Hf'.out _).mono ?_; rintro e w' ⟨rfl, o1, o2, o3, rfl⟩))
      go_ret
      exact ⟨rfl, by repeat (first | with_reducible exact Grown.refl _ | with_reducible apply Grown.alloc | with_reducible apply Grown.drew)⟩
    · have hq : (sm == 0) = false := by
        have := Hm.out
        rw [beq_eq_false_iff_ne]
        split at this <;> omega
      have hr : decide (a0 ≤ a3) = false := by simp; omega
      go_enter Try.func4, Try.ntmps4
      go_wp2_with (first
        | (go_at_call 7; refine (cost_any _ _ _ _).mono ?_; rintro e w' ⟨rfl, c1, rfl⟩)
        | (go_at_call 9; refine (sub_to a0 a1 a2 a3 a4 a5 sm sl sf W0 W1 W2 W3 W4 W5 Hm.out Hl.out Hf.out _).mono ?_; rintro e w' ⟨rfl, o1, o2, o3, rfl⟩)
        | (go_at_call 8; refine (add_to a3 a4 a5 sm sl sf a0 a1 a2 W3 W4 W5 Wm Wl Wf Hm'.out Hl'.out Hf'.out _).mono ?_; rintro e w' ⟨rfl, o1, o2, o3, rfl⟩))
      go_ret
      exact ⟨rfl, by repeat (first | with_reducible exact Grown.refl _ | with_reducible apply Grown.alloc | with_reducible apply Grown.drew)⟩

/-! ### THE ROW's STEP: WRITTEN OUT: LEAVE IT -/
set_option maxRecDepth 100000 in
theorem lifted (os : Os) (started : os.Started) (H : Type) (enc : TypeId × Value → H) :
    ReturnsInHanded {} Try.checked os 4 .any (Rows.fnCostSubThenAddRestoresLaterReadingSpec.pre6 enc Try.prog Try.f4 Rows.fnCostSubThenAddRestoresLaterReadingRow.domain false) (Rows.fnCostSubThenAddRestoresLaterReadingSpec.post enc Try.prog Try.f4 false true false false) := by
  refine returnsInHanded_of_change (C := Try.checked) own started (by kernel_rfl) Try.func4
    (ChangeSpec.witness6 (enc := enc) (C := Try.checked) false ⟨#[], #[.int .u64 0, .int .u64 0, .int .u64 0, .int .u64 0, .int .u64 0, .int .u64 0], []⟩ 8 (by kernel_rfl) (by kernel_rfl) (by kernel_rfl) (by kernel_rfl)) ?_
  intro W base args ds gs before hval0 hW hcnd _
  have hval : ∀ (j : Nat) t v, Try.f4.params[j]? = some t → args[j]? = some v → Value.okWide Try.prog W .any base t v := hval0
  have hW' := hW
  obtain ⟨p, q, hA0, hV, rfl, hfz, hnd⟩ := hW
  have hA : DataW.TrodAll enc Try.prog W 0 (fun _ => true) true Try.f4.params.toList args.toList ds p := hA0
  rw [Try.params4] at hA hval
  obtain ⟨v0, vs0, d0, ds0, p0, q0, hargs, rfl, rfl, h0, r0⟩ := trodAll_cons hA
  obtain ⟨v1, vs1, d1, ds1, p1, q1, rfl, rfl, rfl, h1, r1⟩ := trodAll_cons r0
  obtain ⟨v2, vs2, d2, ds2, p2, q2, rfl, rfl, rfl, h2, r2⟩ := trodAll_cons r1
  obtain ⟨v3, vs3, d3, ds3, p3, q3, rfl, rfl, rfl, h3, r3⟩ := trodAll_cons r2
  obtain ⟨v4, vs4, d4, ds4, p4, q4, rfl, rfl, rfl, h4, r4⟩ := trodAll_cons r3
  obtain ⟨v5, vs5, d5, ds5, p5, q5, rfl, rfl, rfl, h5, r5⟩ := trodAll_cons r4
  obtain ⟨rfl, rfl, rfl⟩ := trodAll_nil r5
  obtain rfl : args = #[v0, v1, v2, v3, v4, v5] := by cases args; simp_all
  obtain ⟨rfl, rfl⟩ := trodVars_none hV
  obtain ⟨a0, rfl, rfl, rfl, w0⟩ := open_int Try.underlying22 (hval 0 22 v0 rfl rfl) h0
  obtain ⟨a1, rfl, rfl, rfl, w1⟩ := open_int Try.underlying22 (hval 1 22 v1 rfl rfl) h1
  obtain ⟨a2, rfl, rfl, rfl, w2⟩ := open_int Try.underlying22 (hval 2 22 v2 rfl rfl) h2
  obtain ⟨a3, rfl, rfl, rfl, w3⟩ := open_int Try.underlying22 (hval 3 22 v3 rfl rfl) h3
  obtain ⟨a4, rfl, rfl, rfl, w4⟩ := open_int Try.underlying22 (hval 4 22 v4 rfl rfl) h4
  obtain ⟨a5, rfl, rfl, rfl, w5⟩ := open_int Try.underlying22 (hval 5 22 v5 rfl rfl) h5
  clear hA0 hval0
  simp only [List.append_nil] at hW'
  refine (walk a0 a1 a2 a3 a4 a5 w0 w1 w2 w3 w4 w5 W).mono fun e W' ⟨he, hg⟩ => ?_
  subst he
  exact ⟨_, rfl, post_of_same (pa := []) (pv := []) hW' (fun _ _ _ => (trodAll_cons_mk (shut_bool Try.underlying4 _) trodAll_mk0)) (fun sp _ => (trodAll_cons_mk (shut_int Try.underlying22 w0) (trodAll_cons_mk (shut_int Try.underlying22 w1) (trodAll_cons_mk (shut_int Try.underlying22 w2) (trodAll_cons_mk (shut_int Try.underlying22 w3) (trodAll_cons_mk (shut_int Try.underlying22 w4) (trodAll_cons_mk (shut_int Try.underlying22 w5) trodAll_mk0))))))) (fun _ _ => rfl) rfl
    (hg.frame _) hg.2.1 (ok_one (by kernel_rfl) rfl (okWide_bool_mk Try.underlying4 _))⟩

theorem over : Rows.fnCostSubThenAddRestoresLaterReadingRow.holds Try.pinned (OpenSpec.ofChange Rows.fnCostSubThenAddRestoresLaterReadingSpec) :=
  OpenClaim.holds_of_wide 4 Try.f4 rfl rfl rfl rfl rfl rfl rfl ⟨rfl, rfl, rfl, rfl, rfl⟩ rfl rfl rfl rfl rfl (by kernel_rfl) Try.func4 (by kernel_rfl)
    (of_decide_eq_true (by kernel_rfl)) (by unfold Func.isWrapper; first | (rw [if_pos (by decide +kernel)]; kernel_rfl) | (rw [if_neg (by decide +kernel)]; exact ⟨rfl, rfl⟩))
    (fun os started H enc _ => lifted os started H enc)

/-- ████ THE STATEMENT ████ -/
theorem proved : Rows.FnCostSubThenAddRestoresLaterReadingSaid :=
  over
end Go.Proofs.Qxb6000750a.fnCostSubThenAddRestoresLaterReading
