/-
  DERIVED. GIVEN WITH THE SEED: THE CARDS: each row of Qxb6613462aFmtRows.lean that lists a variable, with what it lists TIED to the program's text (the seventh form; the later family's looks); each row that meets fmt, with fmt's text TOLD by the authors' own Lean function (tested against real Go, not proved from fmt's source: count such statements apart). THE CARD IS WHAT COUNTS. Prove the row's statement (the work); the ties are given (Qxb6613462aFmtTie.lean); close each card by the builder's one call (the guide's Derived/Test/ToyasCard.lean, 'card_holds'). Laid BY PROGRAM, IN A SANDBOX (cutbox-door.mjs). By AI agents, Wed Nov 11 2026. No macro, syntax, notation, axiom, sorry.
-/
import Derived.Test.Qxb6613462aFmtRows
import GoSem.ClaimSeven
namespace Go.Proofs.Qxb6613462aFmt
namespace Rows

/-- THE TOLD AND TIED CARD OF 'zzlaws_internal_jsonscan_b1.FnLiteralWordCut'. -/
def fnLiteralWordCutCard : Claim7 := { stood := { row := fnLiteralWordCutRow, standIns := [], harness := (true, "cbbaea40fbeaa17cb4a7aaa8b43f8e193c0bad644b8287ace7506266ef2d6924"), looks := false }, told := true, laidByText := true, laidKinds := [.sentinel], laidTests := true, laidLooks := .later, goes := false }
def FnLiteralWordCutToldSaid : Prop := Claim7.holds Tryf.pinned (.plain (OpenSpec.ofChange fnLiteralWordCutSpec)) fnLiteralWordCutCard
/-- ITS FALSE NEIGHBOUR. Refute it at one input. -/
def FnLiteralWordCutToldWrongFalsely : Prop := Claim7.holds Tryf.pinned (.plain (OpenSpec.ofChange fnLiteralWordCutWrong)) fnLiteralWordCutCard

/-- THE TOLD AND TIED CARD OF 'zzlaws_internal_jsonscan_b1.FnLiteralDataCut'. -/
def fnLiteralDataCutCard : Claim7 := { stood := { row := fnLiteralDataCutRow, standIns := [], harness := (true, "cbbaea40fbeaa17cb4a7aaa8b43f8e193c0bad644b8287ace7506266ef2d6924"), looks := false }, told := true, laidByText := true, laidKinds := [.sentinel], laidTests := true, laidLooks := .later, goes := false }
def FnLiteralDataCutToldSaid : Prop := Claim7.holds Tryf.pinned (.plain (OpenSpec.ofChange fnLiteralDataCutSpec)) fnLiteralDataCutCard
/-- ITS FALSE NEIGHBOUR. Refute it at one input. -/
def FnLiteralDataCutToldWrongFalsely : Prop := Claim7.holds Tryf.pinned (.plain (OpenSpec.ofChange fnLiteralDataCutWrong)) fnLiteralDataCutCard
end Rows
end Go.Proofs.Qxb6613462aFmt
