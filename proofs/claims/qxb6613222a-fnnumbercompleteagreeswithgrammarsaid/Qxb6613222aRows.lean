/-
  No cell of these rows narrows 'for every input' (looked for: loops, veiled, ifaces, maps, wideKeys, modest, calm, conditions, laid).
  DERIVED. THE GIVEN ROWS OF THIS SEAT. 4 by the template 'for every input the law returns true; each argument reads behind the call as it read before'; 0 by the template 'total and deterministic' (their statements: Qxb6613222aTotals.lean).
  GIVEN WITH THE SEED: the statements are not yours to turn. If you find one false, say at which input.
  Laid BY PROGRAM, IN A SANDBOX (cutbox-rows.mjs): the forced cells as the released guide's own fill.sh prints them over the translation ec05d9b6175806ee… (all of the seat's roots in one cut). By AI agents, Wed Nov 11 2026. No macro, syntax, notation, axiom, sorry.
-/
import Derived.Test.Qxb6613222aChecked
import GoSem.Claim
import GoSem.ClaimJoined
import GoSem.ClaimMapViews
import Derived.JoinedTies
import Derived.KernelRfl
namespace Go.Proofs.Qxb6613222a
/- THE CELL 'sum', in the pinned program and in every row, IS THE sha256 OF THE DUMP (.gsa) THAT Qxb6613222aProg.lean LOADS. Nothing in Lean hashes anything: it is a label: what it is worth is what the hold of that sum in a sandbox is worth. -/
noncomputable def Try.pinned : Pinned := { name := "qxb6613222a", sum := "ec05d9b6175806ee6e4febe2e21b535d772cd0c65eea3d6e738acfb2a8a814b2", checked := Try.checked }
namespace Rows
def none {H : Type} : Left H := { results := [], args := [] }

/-- 'zzlaws_root_b1.FnNumberCompleteAgreesWithGrammar': WHATEVER THE INPUT: true; the input reads as it did. -/
def fnNumberCompleteAgreesWithGrammarSpec : ChangeSpec := { name := "fnNumberCompleteAgreesWithGrammar", fn := fun _ => fun
  | [d] => { results := [.lit (.bool true)], args := [d] }
  | _ => none }
def fnNumberCompleteAgreesWithGrammarRow : OpenClaim := { program := "qxb6613222a", sum := "ec05d9b6175806ee6e4febe2e21b535d772cd0c65eea3d6e738acfb2a8a814b2", func := "example.com/materai/materai/zzlaws_root_b1.FnNumberCompleteAgreesWithGrammar", spec := "fnNumberCompleteAgreesWithGrammar", apart := false }
def FnNumberCompleteAgreesWithGrammarSaid : Prop := fnNumberCompleteAgreesWithGrammarRow.holds Try.pinned (OpenSpec.ofChange fnNumberCompleteAgreesWithGrammarSpec)

/-- ITS FALSE NEIGHBOUR: 'it returns false'. Refute it at one input. -/
def fnNumberCompleteAgreesWithGrammarWrong : ChangeSpec := { name := "fnNumberCompleteAgreesWithGrammar", fn := fun _ => fun
  | [d] => { results := [.lit (.bool false)], args := [d] }
  | _ => none }
def FnNumberCompleteAgreesWithGrammarWrongFalsely : Prop := fnNumberCompleteAgreesWithGrammarRow.holds Try.pinned (OpenSpec.ofChange fnNumberCompleteAgreesWithGrammarWrong)

/-- 'zzlaws_root_b1.FnNumberCompleteIffLastByteIsDigit': WHATEVER THE INPUT: true; the input reads as it did. -/
def fnNumberCompleteIffLastByteIsDigitSpec : ChangeSpec := { name := "fnNumberCompleteIffLastByteIsDigit", fn := fun _ => fun
  | [d] => { results := [.lit (.bool true)], args := [d] }
  | _ => none }
def fnNumberCompleteIffLastByteIsDigitRow : OpenClaim := { program := "qxb6613222a", sum := "ec05d9b6175806ee6e4febe2e21b535d772cd0c65eea3d6e738acfb2a8a814b2", func := "example.com/materai/materai/zzlaws_root_b1.FnNumberCompleteIffLastByteIsDigit", spec := "fnNumberCompleteIffLastByteIsDigit", apart := false }
def FnNumberCompleteIffLastByteIsDigitSaid : Prop := fnNumberCompleteIffLastByteIsDigitRow.holds Try.pinned (OpenSpec.ofChange fnNumberCompleteIffLastByteIsDigitSpec)

/-- ITS FALSE NEIGHBOUR: 'it returns false'. Refute it at one input. -/
def fnNumberCompleteIffLastByteIsDigitWrong : ChangeSpec := { name := "fnNumberCompleteIffLastByteIsDigit", fn := fun _ => fun
  | [d] => { results := [.lit (.bool false)], args := [d] }
  | _ => none }
def FnNumberCompleteIffLastByteIsDigitWrongFalsely : Prop := fnNumberCompleteIffLastByteIsDigitRow.holds Try.pinned (OpenSpec.ofChange fnNumberCompleteIffLastByteIsDigitWrong)

/-- 'zzlaws_root_b1.FnInObjectIsInnermostLevel': WHATEVER THE INPUT: true; the input reads as it did. -/
def fnInObjectIsInnermostLevelSpec : ChangeSpec := { name := "fnInObjectIsInnermostLevel", fn := fun _ => fun
  | [d] => { results := [.lit (.bool true)], args := [d] }
  | _ => none }
def fnInObjectIsInnermostLevelRow : OpenClaim := { program := "qxb6613222a", sum := "ec05d9b6175806ee6e4febe2e21b535d772cd0c65eea3d6e738acfb2a8a814b2", func := "example.com/materai/materai/zzlaws_root_b1.FnInObjectIsInnermostLevel", spec := "fnInObjectIsInnermostLevel", apart := false }
def FnInObjectIsInnermostLevelSaid : Prop := fnInObjectIsInnermostLevelRow.holds Try.pinned (OpenSpec.ofChange fnInObjectIsInnermostLevelSpec)

/-- ITS FALSE NEIGHBOUR: 'it returns false'. Refute it at one input. -/
def fnInObjectIsInnermostLevelWrong : ChangeSpec := { name := "fnInObjectIsInnermostLevel", fn := fun _ => fun
  | [d] => { results := [.lit (.bool false)], args := [d] }
  | _ => none }
def FnInObjectIsInnermostLevelWrongFalsely : Prop := fnInObjectIsInnermostLevelRow.holds Try.pinned (OpenSpec.ofChange fnInObjectIsInnermostLevelWrong)

/-- 'zzlaws_root_b1.FnInObjectFlipsWithInnermostBit': WHATEVER THE INPUT: true; the input reads as it did. -/
def fnInObjectFlipsWithInnermostBitSpec : ChangeSpec := { name := "fnInObjectFlipsWithInnermostBit", fn := fun _ => fun
  | [d1, d2, d3] => { results := [.lit (.bool true)], args := [d1, d2, d3] }
  | _ => none }
def fnInObjectFlipsWithInnermostBitRow : OpenClaim := { program := "qxb6613222a", sum := "ec05d9b6175806ee6e4febe2e21b535d772cd0c65eea3d6e738acfb2a8a814b2", func := "example.com/materai/materai/zzlaws_root_b1.FnInObjectFlipsWithInnermostBit", spec := "fnInObjectFlipsWithInnermostBit", apart := false }
def FnInObjectFlipsWithInnermostBitSaid : Prop := fnInObjectFlipsWithInnermostBitRow.holds Try.pinned (OpenSpec.ofChange fnInObjectFlipsWithInnermostBitSpec)

/-- ITS FALSE NEIGHBOUR: 'it returns false'. Refute it at one input. -/
def fnInObjectFlipsWithInnermostBitWrong : ChangeSpec := { name := "fnInObjectFlipsWithInnermostBit", fn := fun _ => fun
  | [d1, d2, d3] => { results := [.lit (.bool false)], args := [d1, d2, d3] }
  | _ => none }
def FnInObjectFlipsWithInnermostBitWrongFalsely : Prop := fnInObjectFlipsWithInnermostBitRow.holds Try.pinned (OpenSpec.ofChange fnInObjectFlipsWithInnermostBitWrong)

end Rows
end Go.Proofs.Qxb6613222a
