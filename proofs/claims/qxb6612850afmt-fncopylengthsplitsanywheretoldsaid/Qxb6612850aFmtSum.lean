/- The two guards on the total length. -/
import Derived.Test.Qxb6612850aFmtSmall
namespace Go.Proofs.Qxb6612850aFmt
open Go.RowKit Go.Deep
set_option linter.unusedVariables false

set_option maxRecDepth 100000 in
theorem bytes6 (a b : Option Addr) (la ca lb cb : Nat) (x y z : Value) (w : World) (ha : la ≤ 9223372036854775807) (hb : lb ≤ 9223372036854775807) :
    Calls Tryf.prog 6 #[.slice a la ca, .slice b lb cb, x, y, z] w fun e w' => e = .returned (.bool (decide (la + lb ≤ 1048576))) ∧ w = w' := by
  by_cases h1 : la ≤ 1048576
  · by_cases h2 : lb ≤ 1048576
    · by_cases h3 : la + lb ≤ 1048576
      · rw [decide_eq_true h3]
        go_enter Tryf.func6, Tryf.ntmps6
        go_wp2
        go_ret
        exact ⟨rfl, rfl⟩
      · rw [decide_eq_false h3]
        go_enter Tryf.func6, Tryf.ntmps6
        go_wp2
        go_ret
        exact ⟨rfl, rfl⟩
    · rw [decide_eq_false (show ¬ la + lb ≤ 1048576 by omega)]
      go_enter Tryf.func6, Tryf.ntmps6
      go_wp2
      go_ret
      exact ⟨rfl, rfl⟩
  · rw [decide_eq_false (show ¬ la + lb ≤ 1048576 by omega)]
    go_enter Tryf.func6, Tryf.ntmps6
    go_wp2
    go_ret
    exact ⟨rfl, rfl⟩

set_option maxRecDepth 100000 in
theorem bytes15 (a b : Option Addr) (la ca lb cb : Nat) (x y z u : Value) (w : World) (ha : la ≤ 9223372036854775807) (hb : lb ≤ 9223372036854775807) :
    Calls Tryf.prog 15 #[.slice a la ca, .slice b lb cb, x, y, z, u] w fun e w' => e = .returned (.bool (decide (la + lb ≤ 1048576))) ∧ w = w' := by
  by_cases h1 : la ≤ 1048576
  · by_cases h2 : lb ≤ 1048576
    · by_cases h3 : la + lb ≤ 1048576
      · rw [decide_eq_true h3]
        go_enter Tryf.func15, Tryf.ntmps15
        go_wp2
        go_ret
        exact ⟨rfl, rfl⟩
      · rw [decide_eq_false h3]
        go_enter Tryf.func15, Tryf.ntmps15
        go_wp2
        go_ret
        exact ⟨rfl, rfl⟩
    · rw [decide_eq_false (show ¬ la + lb ≤ 1048576 by omega)]
      go_enter Tryf.func15, Tryf.ntmps15
      go_wp2
      go_ret
      exact ⟨rfl, rfl⟩
  · rw [decide_eq_false (show ¬ la + lb ≤ 1048576 by omega)]
    go_enter Tryf.func15, Tryf.ntmps15
    go_wp2
    go_ret
    exact ⟨rfl, rfl⟩
end Go.Proofs.Qxb6612850aFmt
