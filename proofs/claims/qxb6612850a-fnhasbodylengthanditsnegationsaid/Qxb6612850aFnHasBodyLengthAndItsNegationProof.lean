import Derived.Test.Qxb6612850aRows
import Derived.WalkKit
import Derived.ProofKit
import Derived.OpenShut
import Derived.ShutString
import Derived.Test.Qxb6612850aHas
namespace Go.Proofs.Qxb6612850a.fnHasBodyLengthAndItsNegation
open Go.ChangeShapes Go.WideShapes Go.ChangeAt Go.RowKit
open Go.ChangeMaps (open_string shut_string)
set_option linter.unusedVariables false      -- a walk need not use every 'w<i>' (that an integer argument fits its kind)

theorem own : ownKnob Try.prog.godebug = none := by kernel_rfl

/-! ### STEP 1: THE WALK: the Go text returns true. 'Grown w w'': the world has at most new blocks (Derived/RowKit3.lean). Part the cases AHEAD of 'go_enter' where a test parts the walk; take each callee by a contract of your own. -/
set_option maxHeartbeats 1000000 in
theorem walk (a0 : Int) (a1 : Bool) (w0 : (Lit.int .i64 a0).wf = true) (w : World) :
    Calls Try.prog 4 #[.int .i64 a0, .bool a1] w fun e w' => e = .returned (.bool true) ∧ Grown w w' := by
  have hb : -9223372036854775808 ≤ a0 ∧ a0 ≤ 9223372036854775807 := by
    simp [Lit.wf, IntKind.min, IntKind.max, IntKind.signed, IntKind.bits] at w0
    omega
  obtain ⟨hb1, hb2⟩ := hb
  have e1 : ∀ (n : Int), hasB n true = true := fun n => rfl
  cases a1
  · by_cases h0 : a0 = 0
    · subst h0
      have f1 : hasB 0 false = false := rfl
      go_enter Try.func4, Try.ntmps4
      go_wp2_with fail
      refine (hasBody_any _ false 0 _ ?_ ?_).mono ?_
      · simp [go_sem]
      · simp [go_sem]
      rintro e w' ⟨rfl, rfl⟩
      go_wp2_with fail
      refine (hasBody_any _ false 0 _ ?_ ?_).mono ?_
      · simp [go_sem]
      · simp [go_sem]
      rintro e w' ⟨rfl, rfl⟩
      go_wp2
      go_ret
      exact ⟨rfl, by repeat (first | exact Grown.refl _ | apply Grown.drew | apply Grown.alloc)⟩
    by_cases hm : a0 = -9223372036854775808
    · subst hm
      have f1 : hasB (-9223372036854775808) false = false := rfl
      have f2 : hasB (wrap64 9223372036854775808) false = false := by unfold wrap64; rfl
      go_enter Try.func4, Try.ntmps4
      go_wp2_with fail
      refine (hasBody_any _ false (-9223372036854775808) _ ?_ ?_).mono ?_
      · simp [go_sem]
      · simp [go_sem]
      rintro e w' ⟨rfl, rfl⟩
      go_wp2_with fail
      refine (hasBody_any _ false (wrap64 9223372036854775808) _ ?_ ?_).mono ?_
      · simp [go_sem]
      · simp [go_sem]
      rintro e w' ⟨rfl, rfl⟩
      go_wp2
      go_ret
      exact ⟨rfl, by repeat (first | exact Grown.refl _ | apply Grown.drew | apply Grown.alloc)⟩
    have g0 : (a0 == 0) = false := by simp [h0]
    have gm : (a0 == -9223372036854775808) = false := by simp [hm]
    have hb3 : -9223372036854775807 ≤ a0 := by omega
    clear hb1 hm
    by_cases hp : 0 < a0
    · clear h0
      have f1 : hasB a0 false = true := by simp [hasB, hp]
      have f2 : hasB (-a0) false = false := by simp [hasB]; omega
      have d3 : decide (-a0 < a0) = true := decide_eq_true (by omega)
      go_enter Try.func4, Try.ntmps4
      go_wp2_with fail
      refine (hasBody_any _ false a0 _ ?_ ?_).mono ?_
      · simp [go_sem]
      · simp [go_sem]
      rintro e w' ⟨rfl, rfl⟩
      go_wp2_with fail
      refine (hasBody_any _ false (-a0) _ ?_ ?_).mono ?_
      · simp [go_sem]
      · simp [go_sem]
      rintro e w' ⟨rfl, rfl⟩
      go_wp2
      go_ret
      exact ⟨rfl, by repeat (first | exact Grown.refl _ | apply Grown.drew | apply Grown.alloc)⟩
    · have hq : a0 ≤ -1 := by omega
      clear h0 hp
      have f1 : hasB a0 false = false := by simp [hasB]; omega
      have f2 : hasB (-a0) false = true := by simp [hasB]; omega
      have d3 : decide (-a0 < a0) = false := decide_eq_false (by omega)
      go_enter Try.func4, Try.ntmps4
      go_wp2_with fail
      refine (hasBody_any _ false a0 _ ?_ ?_).mono ?_
      · simp [go_sem]
      · simp [go_sem]
      rintro e w' ⟨rfl, rfl⟩
      go_wp2_with fail
      refine (hasBody_any _ false (-a0) _ ?_ ?_).mono ?_
      · simp [go_sem]
      · simp [go_sem]
      rintro e w' ⟨rfl, rfl⟩
      go_wp2
      go_ret
      exact ⟨rfl, by repeat (first | exact Grown.refl _ | apply Grown.drew | apply Grown.alloc)⟩
  · go_enter Try.func4, Try.ntmps4
    go_wp2_with fail
    refine (hasBody_any _ true a0 _ ?_ ?_).mono ?_
    · simp [go_sem]
    · simp [go_sem]
    rintro e w' ⟨rfl, rfl⟩
    go_wp2_with fail
    refine (hasBody_any _ true (wrap64 (-a0)) _ ?_ ?_).mono ?_
    · simp [go_sem]
    · simp [go_sem]
    rintro e w' ⟨rfl, rfl⟩
    go_wp2
    go_ret
    exact ⟨rfl, by repeat (first | exact Grown.refl _ | apply Grown.drew | apply Grown.alloc)⟩

/-! ### THE ROW's STEP: WRITTEN OUT: LEAVE IT -/
set_option maxRecDepth 100000 in
theorem lifted (os : Os) (started : os.Started) (H : Type) (enc : TypeId × Value → H) :
    ReturnsInHanded {} Try.checked os 4 .any (Rows.fnHasBodyLengthAndItsNegationSpec.pre6 enc Try.prog Try.f4 Rows.fnHasBodyLengthAndItsNegationRow.domain false) (Rows.fnHasBodyLengthAndItsNegationSpec.post enc Try.prog Try.f4 false true false false) := by
  refine returnsInHanded_of_change (C := Try.checked) own started (by kernel_rfl) Try.func4
    (ChangeSpec.witness6 (enc := enc) (C := Try.checked) false ⟨#[], #[.int .i64 0, .bool false], []⟩ 8 (by kernel_rfl) (by kernel_rfl) (by kernel_rfl) (by kernel_rfl)) ?_
  intro W base args ds gs before hval0 hW hcnd _
  have hval : ∀ (j : Nat) t v, Try.f4.params[j]? = some t → args[j]? = some v → Value.okWide Try.prog W .any base t v := hval0
  have hW' := hW
  obtain ⟨p, q, hA0, hV, rfl, hfz, hnd⟩ := hW
  have hA : DataW.TrodAll enc Try.prog W 0 (fun _ => true) true Try.f4.params.toList args.toList ds p := hA0
  rw [Try.params4] at hA hval
  obtain ⟨v0, vs0, d0, ds0, p0, q0, hargs, rfl, rfl, h0, r0⟩ := trodAll_cons hA
  obtain ⟨v1, vs1, d1, ds1, p1, q1, rfl, rfl, rfl, h1, r1⟩ := trodAll_cons r0
  obtain ⟨rfl, rfl, rfl⟩ := trodAll_nil r1
  obtain rfl : args = #[v0, v1] := by cases args; simp_all
  obtain ⟨rfl, rfl⟩ := trodVars_none hV
  obtain ⟨a0, rfl, rfl, rfl, w0⟩ := open_int Try.underlying2 (hval 0 2 v0 rfl rfl) h0
  obtain ⟨a1, rfl, rfl, rfl⟩ := open_bool Try.underlying4 (hval 1 4 v1 rfl rfl) h1
  clear hA0 hval0
  simp only [List.append_nil] at hW'
  refine (walk a0 a1 w0 W).mono fun e W' ⟨he, hg⟩ => ?_
  subst he
  exact ⟨_, rfl, post_of_same (pa := []) (pv := []) hW' (fun _ _ _ => (trodAll_cons_mk (shut_bool Try.underlying4 _) trodAll_mk0)) (fun sp _ => (trodAll_cons_mk (shut_int Try.underlying2 w0) (trodAll_cons_mk (shut_bool Try.underlying4 _) trodAll_mk0))) (fun _ _ => rfl) rfl
    (hg.frame _) hg.2.1 (ok_one (by kernel_rfl) rfl (okWide_bool_mk Try.underlying4 _))⟩

theorem over : Rows.fnHasBodyLengthAndItsNegationRow.holds Try.pinned (OpenSpec.ofChange Rows.fnHasBodyLengthAndItsNegationSpec) :=
  OpenClaim.holds_of_wide 4 Try.f4 rfl rfl rfl rfl rfl rfl rfl ⟨rfl, rfl, rfl, rfl, rfl⟩ rfl rfl rfl rfl rfl (by kernel_rfl) Try.func4 (by kernel_rfl)
    (of_decide_eq_true (by kernel_rfl)) (by unfold Func.isWrapper; first | (rw [if_pos (by decide +kernel)]; kernel_rfl) | (rw [if_neg (by decide +kernel)]; exact ⟨rfl, rfl⟩))
    (fun os started H enc _ => lifted os started H enc)

/-- ████ THE STATEMENT ████ -/
theorem proved : Rows.FnHasBodyLengthAndItsNegationSaid :=
  over
end Go.Proofs.Qxb6612850a.fnHasBodyLengthAndItsNegation
