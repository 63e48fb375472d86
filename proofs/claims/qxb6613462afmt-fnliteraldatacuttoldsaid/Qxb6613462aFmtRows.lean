/-
  NARROWER THAN 'FOR EVERY INPUT', by the rows' own cells (each row's printed sentence says how): FnLiteralWordCut: ifaces, laid · FnLiteralDataCut: ifaces, laid.
  DERIVED. THE GIVEN ROWS OF THIS SEAT. 2 by the template 'for every input the law returns true; each argument reads behind the call as it read before'; 0 by the template 'total and deterministic' (their statements: Qxb6613462aFmtTotals.lean).
  GIVEN WITH THE SEED: the statements are not yours to turn. If you find one false, say at which input.
  Laid BY PROGRAM, IN A SANDBOX (cutbox-rows.mjs): the forced cells as the released guide's own fill.sh prints them over the translation 177931303add8f1b… (all of the seat's roots in one cut). By AI agents, Wed Nov 11 2026. No macro, syntax, notation, axiom, sorry.
-/
import Derived.Test.Qxb6613462aFmtChecked
import GoSem.Claim
import GoSem.ClaimJoined
import GoSem.ClaimMapViews
import Derived.JoinedTies
import Derived.KernelRfl
namespace Go.Proofs.Qxb6613462aFmt
/- THE CELL 'sum', in the pinned program and in every row, IS THE sha256 OF THE DUMP (.gsa) THAT Qxb6613462aFmtProg.lean LOADS. Nothing in Lean hashes anything: it is a label: what it is worth is what the hold of that sum in a sandbox is worth. -/
noncomputable def Tryf.pinned : Pinned := { name := "qxb6613462afmt", sum := "177931303add8f1bf5378373be642a1a01022f231bb1fcbb3307c9c4279a6c39", checked := Tryf.checked }
namespace Rows
def none {H : Type} : Left H := { results := [], args := [] }

/- WHAT THE LISTED PACKAGE-LEVEL VARIABLES READ AS WHEN THE CALL BEGINS. Each datum BY PROGRAM (the guide's laid-datum.mjs) off the statement by which the dump's own 'gosem.cut.vars' lays the variable. In a bare row this is a premise. The card (Qxb6613462aFmtCards.lean) ties it to the program's text. -/
def laid_example_com_bellows_bellows_internal_jsonscan_ErrSyntax {H : Type} : DataW H := .iface "*errors.errorString" (.ptr (.agg [.lit (.string [115, 121, 110, 116, 97, 120, 32, 101, 114, 114, 111, 114])]))

/-- 'zzlaws_internal_jsonscan_b1.FnLiteralWordCut': WHATEVER THE INPUT: true; the input reads as it did. -/
def fnLiteralWordCutSpec : ChangeSpec := { name := "fnLiteralWordCut", vars := ["example.com/bellows/bellows/internal/jsonscan.ErrSyntax"], fn := fun _ => fun
  | [d1, d2, d3, d4, g1] => { results := [.lit (.bool true)], args := [d1, d2, d3, d4], vars := [g1] }
  | _ => none }
def fnLiteralWordCutRow : OpenClaim := { program := "qxb6613462afmt", sum := "177931303add8f1bf5378373be642a1a01022f231bb1fcbb3307c9c4279a6c39", func := "example.com/bellows/bellows/zzlaws_internal_jsonscan_b1.FnLiteralWordCut", spec := "fnLiteralWordCut", stops := ["fmt.Sprintf", "fmt.errorf"], inPlace := ["fmt.errorf", "fmt.Sprintf"], named := ["example.com/bellows/bellows/internal/jsonscan.ErrSyntax"], ifaces := true, apart := false, laid := [("example.com/bellows/bellows/internal/jsonscan.ErrSyntax", laid_example_com_bellows_bellows_internal_jsonscan_ErrSyntax)] }
/-- NO THEOREM (fmt's text is open here; it may be false): for the released tool's asking of the row's closed facts alone. THE STATEMENT IS 'FnLiteralWordCutToldSaid' (Qxb6613462aFmtCards.lean). -/
def FnLiteralWordCutFormAsk : Prop := fnLiteralWordCutRow.holds Tryf.pinned (OpenSpec.ofChange fnLiteralWordCutSpec)

/-- ITS FALSE NEIGHBOUR: 'it returns false'. Refute it at one input. -/
def fnLiteralWordCutWrong : ChangeSpec := { name := "fnLiteralWordCut", vars := ["example.com/bellows/bellows/internal/jsonscan.ErrSyntax"], fn := fun _ => fun
  | [d1, d2, d3, d4, g1] => { results := [.lit (.bool false)], args := [d1, d2, d3, d4], vars := [g1] }
  | _ => none }
def FnLiteralWordCutWrongFormAsk : Prop := fnLiteralWordCutRow.holds Tryf.pinned (OpenSpec.ofChange fnLiteralWordCutWrong)

/-- 'zzlaws_internal_jsonscan_b1.FnLiteralDataCut': WHATEVER THE INPUT: true; the input reads as it did. -/
def fnLiteralDataCutSpec : ChangeSpec := { name := "fnLiteralDataCut", vars := ["example.com/bellows/bellows/internal/jsonscan.ErrSyntax"], fn := fun _ => fun
  | [d1, d2, d3, d4, g1] => { results := [.lit (.bool true)], args := [d1, d2, d3, d4], vars := [g1] }
  | _ => none }
def fnLiteralDataCutRow : OpenClaim := { program := "qxb6613462afmt", sum := "177931303add8f1bf5378373be642a1a01022f231bb1fcbb3307c9c4279a6c39", func := "example.com/bellows/bellows/zzlaws_internal_jsonscan_b1.FnLiteralDataCut", spec := "fnLiteralDataCut", stops := ["fmt.Sprintf", "fmt.errorf"], inPlace := ["fmt.errorf", "fmt.Sprintf"], named := ["example.com/bellows/bellows/internal/jsonscan.ErrSyntax"], ifaces := true, apart := false, laid := [("example.com/bellows/bellows/internal/jsonscan.ErrSyntax", laid_example_com_bellows_bellows_internal_jsonscan_ErrSyntax)] }
/-- NO THEOREM (fmt's text is open here; it may be false): for the released tool's asking of the row's closed facts alone. THE STATEMENT IS 'FnLiteralDataCutToldSaid' (Qxb6613462aFmtCards.lean). -/
def FnLiteralDataCutFormAsk : Prop := fnLiteralDataCutRow.holds Tryf.pinned (OpenSpec.ofChange fnLiteralDataCutSpec)

/-- ITS FALSE NEIGHBOUR: 'it returns false'. Refute it at one input. -/
def fnLiteralDataCutWrong : ChangeSpec := { name := "fnLiteralDataCut", vars := ["example.com/bellows/bellows/internal/jsonscan.ErrSyntax"], fn := fun _ => fun
  | [d1, d2, d3, d4, g1] => { results := [.lit (.bool false)], args := [d1, d2, d3, d4], vars := [g1] }
  | _ => none }
def FnLiteralDataCutWrongFormAsk : Prop := fnLiteralDataCutRow.holds Tryf.pinned (OpenSpec.ofChange fnLiteralDataCutWrong)

end Rows
end Go.Proofs.Qxb6613462aFmt
