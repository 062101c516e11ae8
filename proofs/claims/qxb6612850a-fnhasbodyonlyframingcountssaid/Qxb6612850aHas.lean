import Derived.Test.Qxb6612850aRows
import Derived.WalkKit
import Derived.ProofKit
namespace Go.Proofs.Qxb6612850a
open Go.RowKit
set_option linter.unusedVariables false

/-- A request has a body. -/
def hasB (l : Int) (c : Bool) : Bool := c || decide (0 < l)

theorem hasBody_any (b : Nat) (c : Bool) (l : Int) (w : World) (h7 : w.cell? ⟨b, 7, none⟩ = some (.int .i64 l)) (h8 : w.cell? ⟨b, 8, none⟩ = some (.bool c)) :
    Calls Try.prog 7 #[.pointer (some ⟨b, 0, none⟩)] w fun e w' => e = .returned (.bool (hasB l c)) ∧ w = w' := by
  unfold hasB
  cases c
  · go_enter Try.func7, Try.ntmps7
    go_wp2
    go_ret
    exact ⟨by simp, rfl⟩
  · go_enter Try.func7, Try.ntmps7
    go_wp2
    go_ret
    exact ⟨by simp, rfl⟩
end Go.Proofs.Qxb6612850a
