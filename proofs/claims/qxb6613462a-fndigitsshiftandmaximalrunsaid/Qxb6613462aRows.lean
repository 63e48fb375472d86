/-
  No cell of these rows narrows 'for every input' (looked for: loops, veiled, ifaces, maps, wideKeys, modest, calm, conditions, laid).
  DERIVED. THE GIVEN ROWS OF THIS SEAT. 1 by the template 'for every input the law returns true; each argument reads behind the call as it read before'; 0 by the template 'total and deterministic' (their statements: Qxb6613462aTotals.lean).
  GIVEN WITH THE SEED: the statements are not yours to turn. If you find one false, say at which input.
  Laid BY PROGRAM, IN A SANDBOX (cutbox-rows.mjs): the forced cells as the released guide's own fill.sh prints them over the translation f87937f0db67ae76… (all of the seat's roots in one cut). By AI agents, Wed Nov 11 2026. No macro, syntax, notation, axiom, sorry.
-/
import Derived.Test.Qxb6613462aChecked
import GoSem.Claim
import GoSem.ClaimJoined
import GoSem.ClaimMapViews
import Derived.JoinedTies
import Derived.KernelRfl
namespace Go.Proofs.Qxb6613462a
/- THE CELL 'sum', in the pinned program and in every row, IS THE sha256 OF THE DUMP (.gsa) THAT Qxb6613462aProg.lean LOADS. Nothing in Lean hashes anything: it is a label: what it is worth is what the hold of that sum in a sandbox is worth. -/
noncomputable def Try.pinned : Pinned := { name := "qxb6613462a", sum := "f87937f0db67ae76b71a054afa9592ad0e7d80cd0c88db9b20670903ca3d16c3", checked := Try.checked }
namespace Rows
def none {H : Type} : Left H := { results := [], args := [] }

/-- 'zzlaws_internal_jsonscan_b1.FnDigitsShiftAndMaximalRun': WHATEVER THE INPUT: true; the input reads as it did. -/
def fnDigitsShiftAndMaximalRunSpec : ChangeSpec := { name := "fnDigitsShiftAndMaximalRun", fn := fun _ => fun
  | [d1, d2] => { results := [.lit (.bool true)], args := [d1, d2] }
  | _ => none }
def fnDigitsShiftAndMaximalRunRow : OpenClaim := { program := "qxb6613462a", sum := "f87937f0db67ae76b71a054afa9592ad0e7d80cd0c88db9b20670903ca3d16c3", func := "example.com/bellows/bellows/zzlaws_internal_jsonscan_b1.FnDigitsShiftAndMaximalRun", spec := "fnDigitsShiftAndMaximalRun", apart := false }
def FnDigitsShiftAndMaximalRunSaid : Prop := fnDigitsShiftAndMaximalRunRow.holds Try.pinned (OpenSpec.ofChange fnDigitsShiftAndMaximalRunSpec)

/-- ITS FALSE NEIGHBOUR: 'it returns false'. Refute it at one input. -/
def fnDigitsShiftAndMaximalRunWrong : ChangeSpec := { name := "fnDigitsShiftAndMaximalRun", fn := fun _ => fun
  | [d1, d2] => { results := [.lit (.bool false)], args := [d1, d2] }
  | _ => none }
def FnDigitsShiftAndMaximalRunWrongFalsely : Prop := fnDigitsShiftAndMaximalRunRow.holds Try.pinned (OpenSpec.ofChange fnDigitsShiftAndMaximalRunWrong)

end Rows
end Go.Proofs.Qxb6613462a
