/-
  DERIVED. GIVEN WITH THE SEED: THE CARDS: each row of Qxb6612850aFmtRows.lean that lists a variable, with what it lists TIED to the program's text (the seventh form; the later family's looks); each row that meets fmt, with fmt's text TOLD by the authors' own Lean function (tested against real Go, not proved from fmt's source: count such statements apart). THE CARD IS WHAT COUNTS. Prove the row's statement (the work); the ties are given (Qxb6612850aFmtTie.lean); close each card by the builder's one call (the guide's Derived/Test/ToyasCard.lean, 'card_holds'). Laid BY PROGRAM, IN A SANDBOX (cutbox-door.mjs). By AI agents, Wed Nov 11 2026. No macro, syntax, notation, axiom, sorry.
-/
import Derived.Test.Qxb6612850aFmtRows
import GoSem.ClaimSeven
namespace Go.Proofs.Qxb6612850aFmt
namespace Rows

/-- THE TOLD AND TIED CARD OF 'zzlaws_internal_proxy_http1_b1.FnCopyLengthCopiesExactly'. -/
def fnCopyLengthCopiesExactlyCard : Claim7 := { stood := { row := fnCopyLengthCopiesExactlyRow, standIns := [], harness := (true, "9d505df50d29ae80a9fe71eba371d071221f04dbdda81ecf326844a01cae5f14"), looks := true }, told := true, laidByText := true, laidKinds := [.sentinel, .sentinel, .sentinel, .sentinel, .sentinel, .sentinel, .sentinel], laidTests := true, laidLooks := .later, goes := false }
def FnCopyLengthCopiesExactlyToldSaid : Prop := Claim7.holds Tryf.pinned (.plain (OpenSpec.ofChange fnCopyLengthCopiesExactlySpec)) fnCopyLengthCopiesExactlyCard
/-- ITS FALSE NEIGHBOUR. Refute it at one input. -/
def FnCopyLengthCopiesExactlyToldWrongFalsely : Prop := Claim7.holds Tryf.pinned (.plain (OpenSpec.ofChange fnCopyLengthCopiesExactlyWrong)) fnCopyLengthCopiesExactlyCard

/-- THE TOLD AND TIED CARD OF 'zzlaws_internal_proxy_http1_b1.FnCopyLengthSplitsAnywhere'. -/
def fnCopyLengthSplitsAnywhereCard : Claim7 := { stood := { row := fnCopyLengthSplitsAnywhereRow, standIns := [], harness := (true, "9d505df50d29ae80a9fe71eba371d071221f04dbdda81ecf326844a01cae5f14"), looks := true }, told := true, laidByText := true, laidKinds := [.sentinel, .sentinel, .sentinel, .sentinel, .sentinel, .sentinel, .sentinel], laidTests := true, laidLooks := .later, goes := false }
def FnCopyLengthSplitsAnywhereToldSaid : Prop := Claim7.holds Tryf.pinned (.plain (OpenSpec.ofChange fnCopyLengthSplitsAnywhereSpec)) fnCopyLengthSplitsAnywhereCard
/-- ITS FALSE NEIGHBOUR. Refute it at one input. -/
def FnCopyLengthSplitsAnywhereToldWrongFalsely : Prop := Claim7.holds Tryf.pinned (.plain (OpenSpec.ofChange fnCopyLengthSplitsAnywhereWrong)) fnCopyLengthSplitsAnywhereCard

/-- THE TOLD AND TIED CARD OF 'zzlaws_internal_proxy_http1_b1.FnOutgrowsAtZeroIsChunkLine'. -/
def fnOutgrowsAtZeroIsChunkLineCard : Claim7 := { stood := { row := fnOutgrowsAtZeroIsChunkLineRow, standIns := [], harness := (true, "9d505df50d29ae80a9fe71eba371d071221f04dbdda81ecf326844a01cae5f14"), looks := true }, told := true, laidByText := true, laidKinds := [.data, .pinned], laidTests := true, laidLooks := .later, goes := false }
def FnOutgrowsAtZeroIsChunkLineToldSaid : Prop := Claim7.holds Tryf.pinned (.plain (OpenSpec.ofChange fnOutgrowsAtZeroIsChunkLineSpec)) fnOutgrowsAtZeroIsChunkLineCard
/-- ITS FALSE NEIGHBOUR. Refute it at one input. -/
def FnOutgrowsAtZeroIsChunkLineToldWrongFalsely : Prop := Claim7.holds Tryf.pinned (.plain (OpenSpec.ofChange fnOutgrowsAtZeroIsChunkLineWrong)) fnOutgrowsAtZeroIsChunkLineCard
end Rows
end Go.Proofs.Qxb6612850aFmt
