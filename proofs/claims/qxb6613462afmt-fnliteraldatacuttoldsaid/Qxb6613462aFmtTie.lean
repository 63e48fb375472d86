/-
  DERIVED. GIVEN WITH THE SEED: THE PROGRAM's TIES (one call each: nine closed facts by the kernel) AND EACH ROW's TIE, after the 31st guide's Derived/Test/Toyas{Tie, Card}.lean. No idea stands in it: it is a product of the set-up. Laid BY PROGRAM, IN A SANDBOX (cutbox-door.mjs). By AI agents, Wed Nov 11 2026. No macro, syntax, notation, axiom, sorry.
-/
import Derived.Test.Qxb6613462aFmtRows
import Derived.LaidByTextLater
import Derived.SevenTiedAt
import Derived.LaidSub
import Derived.LaidOnce
namespace Go.Proofs.Qxb6613462aFmt
open Go
set_option maxRecDepth 100000
theorem seatTie1 : Tryf.prog.laidByTextLater [("example.com/bellows/bellows/internal/jsonscan.ErrSyntax", Rows.laid_example_com_bellows_bellows_internal_jsonscan_ErrSyntax)] [.sentinel] true :=
  Program.laidByTextLater_by_one 28 8 2 (by kernel_rfl) (by kernel_rfl) (by kernel_rfl) (by kernel_rfl) (by kernel_rfl) (by kernel_rfl) (fun _ _ => by kernel_rfl)
theorem noOwnUnsafe : Tryf.pinned.checked.prog.headLifts.contains "ownunsafe" = false := by kernel_rfl
theorem tie : Tryf.prog.laidByTextLater [("example.com/bellows/bellows/internal/jsonscan.ErrSyntax", Rows.laid_example_com_bellows_bellows_internal_jsonscan_ErrSyntax)] [.sentinel] true :=
  Program.laidByTextLater.sub seatTie1 ["example.com/bellows/bellows/internal/jsonscan.ErrSyntax"] (by kernel_rfl) (by kernel_rfl)
theorem fnLiteralWordCut_row_tie : Rows.fnLiteralWordCutRow.laidByTextAt .later Tryf.pinned [.sentinel] true :=
  OpenClaim.laidByTextAt_later rfl rfl tie noOwnUnsafe
theorem fnLiteralDataCut_row_tie : Rows.fnLiteralDataCutRow.laidByTextAt .later Tryf.pinned [.sentinel] true :=
  OpenClaim.laidByTextAt_later rfl rfl tie noOwnUnsafe
end Go.Proofs.Qxb6613462aFmt
