/-
  No cell of these rows narrows 'for every input' (looked for: loops, veiled, ifaces, maps, wideKeys, modest, calm, conditions, laid).
  DERIVED. THE GIVEN ROWS OF THIS SEAT. 2 by the template 'for every input the law returns true; each argument reads behind the call as it read before'; 0 by the template 'total and deterministic' (their statements: Qxb6612850aTotals.lean).
  GIVEN WITH THE SEED: the statements are not yours to turn. If you find one false, say at which input.
  Laid BY PROGRAM, IN A SANDBOX (cutbox-rows.mjs): the forced cells as the released guide's own fill.sh prints them over the translation 7821a2866d99e564… (all of the seat's roots in one cut). By AI agents, Wed Nov 11 2026. No macro, syntax, notation, axiom, sorry.
-/
import Derived.Test.Qxb6612850aChecked
import GoSem.Claim
import GoSem.ClaimJoined
import GoSem.ClaimMapViews
import Derived.JoinedTies
import Derived.KernelRfl
namespace Go.Proofs.Qxb6612850a
/- THE CELL 'sum', in the pinned program and in every row, IS THE sha256 OF THE DUMP (.gsa) THAT Qxb6612850aProg.lean LOADS. Nothing in Lean hashes anything: it is a label: what it is worth is what the hold of that sum in a sandbox is worth. -/
noncomputable def Try.pinned : Pinned := { name := "qxb6612850a", sum := "7821a2866d99e564e04c2039332d6a7cdae365ea5e1bf9a9748bda3a5218d3cc", checked := Try.checked }
namespace Rows
def none {H : Type} : Left H := { results := [], args := [] }

/-- 'zzlaws_internal_proxy_http1_b1.FnHasBodyOnlyFramingCounts': WHATEVER THE INPUT: true; the input reads as it did. -/
def fnHasBodyOnlyFramingCountsSpec : ChangeSpec := { name := "fnHasBodyOnlyFramingCounts", fn := fun _ => fun
  | [d1, d2, d3, d4, d5, d6, d7, d8, d9, d10] => { results := [.lit (.bool true)], args := [d1, d2, d3, d4, d5, d6, d7, d8, d9, d10] }
  | _ => none }
def fnHasBodyOnlyFramingCountsRow : OpenClaim := { program := "qxb6612850a", sum := "7821a2866d99e564e04c2039332d6a7cdae365ea5e1bf9a9748bda3a5218d3cc", func := "example.com/tidegate/tidegate/zzlaws_internal_proxy_http1_b1.FnHasBodyOnlyFramingCounts", spec := "fnHasBodyOnlyFramingCounts", apart := false }
def FnHasBodyOnlyFramingCountsSaid : Prop := fnHasBodyOnlyFramingCountsRow.holds Try.pinned (OpenSpec.ofChange fnHasBodyOnlyFramingCountsSpec)

/-- ITS FALSE NEIGHBOUR: 'it returns false'. Refute it at one input. -/
def fnHasBodyOnlyFramingCountsWrong : ChangeSpec := { name := "fnHasBodyOnlyFramingCounts", fn := fun _ => fun
  | [d1, d2, d3, d4, d5, d6, d7, d8, d9, d10] => { results := [.lit (.bool false)], args := [d1, d2, d3, d4, d5, d6, d7, d8, d9, d10] }
  | _ => none }
def FnHasBodyOnlyFramingCountsWrongFalsely : Prop := fnHasBodyOnlyFramingCountsRow.holds Try.pinned (OpenSpec.ofChange fnHasBodyOnlyFramingCountsWrong)

/-- 'zzlaws_internal_proxy_http1_b1.FnHasBodyLengthAndItsNegation': WHATEVER THE INPUT: true; the input reads as it did. -/
def fnHasBodyLengthAndItsNegationSpec : ChangeSpec := { name := "fnHasBodyLengthAndItsNegation", fn := fun _ => fun
  | [d1, d2] => { results := [.lit (.bool true)], args := [d1, d2] }
  | _ => none }
def fnHasBodyLengthAndItsNegationRow : OpenClaim := { program := "qxb6612850a", sum := "7821a2866d99e564e04c2039332d6a7cdae365ea5e1bf9a9748bda3a5218d3cc", func := "example.com/tidegate/tidegate/zzlaws_internal_proxy_http1_b1.FnHasBodyLengthAndItsNegation", spec := "fnHasBodyLengthAndItsNegation", apart := false }
def FnHasBodyLengthAndItsNegationSaid : Prop := fnHasBodyLengthAndItsNegationRow.holds Try.pinned (OpenSpec.ofChange fnHasBodyLengthAndItsNegationSpec)

/-- ITS FALSE NEIGHBOUR: 'it returns false'. Refute it at one input. -/
def fnHasBodyLengthAndItsNegationWrong : ChangeSpec := { name := "fnHasBodyLengthAndItsNegation", fn := fun _ => fun
  | [d1, d2] => { results := [.lit (.bool false)], args := [d1, d2] }
  | _ => none }
def FnHasBodyLengthAndItsNegationWrongFalsely : Prop := fnHasBodyLengthAndItsNegationRow.holds Try.pinned (OpenSpec.ofChange fnHasBodyLengthAndItsNegationWrong)

end Rows
end Go.Proofs.Qxb6612850a
