/-
  No cell of these rows narrows 'for every input' (looked for: loops, veiled, ifaces, maps, wideKeys, modest, calm, conditions, laid).
  DERIVED. THE GIVEN ROWS OF THIS SEAT. 1 by the template 'for every input the law returns true; each argument reads behind the call as it read before'; 0 by the template 'total and deterministic' (their statements: Qxb6613437aTotals.lean).
  GIVEN WITH THE SEED: the statements are not yours to turn. If you find one false, say at which input.
  Laid BY PROGRAM, IN A SANDBOX (cutbox-rows.mjs): the forced cells as the released guide's own fill.sh prints them over the translation 87a36468894cb248… (all of the seat's roots in one cut). By AI agents, Wed Nov 11 2026. No macro, syntax, notation, axiom, sorry.
-/
import Derived.Test.Qxb6613437aChecked
import GoSem.Claim
import GoSem.ClaimJoined
import GoSem.ClaimMapViews
import Derived.JoinedTies
import Derived.KernelRfl
namespace Go.Proofs.Qxb6613437a
/- THE CELL 'sum', in the pinned program and in every row, IS THE sha256 OF THE DUMP (.gsa) THAT Qxb6613437aProg.lean LOADS. Nothing in Lean hashes anything: it is a label: what it is worth is what the hold of that sum in a sandbox is worth. -/
noncomputable def Try.pinned : Pinned := { name := "qxb6613437a", sum := "87a36468894cb24824fd2a7bb05535ce69f8848a15f9bd983dcb93eeb4b5c946", checked := Try.checked }
namespace Rows
def none {H : Type} : Left H := { results := [], args := [] }

/-- 'zzlaws_internal_server_b1.FnIsAlnumIsFoldedLetterOrDigit': WHATEVER THE INPUT: true; the input reads as it did. -/
def fnIsAlnumIsFoldedLetterOrDigitSpec : ChangeSpec := { name := "fnIsAlnumIsFoldedLetterOrDigit", fn := fun _ => fun
  | [d] => { results := [.lit (.bool true)], args := [d] }
  | _ => none }
def fnIsAlnumIsFoldedLetterOrDigitRow : OpenClaim := { program := "qxb6613437a", sum := "87a36468894cb24824fd2a7bb05535ce69f8848a15f9bd983dcb93eeb4b5c946", func := "example.com/regnant/regnant/zzlaws_internal_server_b1.FnIsAlnumIsFoldedLetterOrDigit", spec := "fnIsAlnumIsFoldedLetterOrDigit", apart := false }
def FnIsAlnumIsFoldedLetterOrDigitSaid : Prop := fnIsAlnumIsFoldedLetterOrDigitRow.holds Try.pinned (OpenSpec.ofChange fnIsAlnumIsFoldedLetterOrDigitSpec)

/-- ITS FALSE NEIGHBOUR: 'it returns false'. Refute it at one input. -/
def fnIsAlnumIsFoldedLetterOrDigitWrong : ChangeSpec := { name := "fnIsAlnumIsFoldedLetterOrDigit", fn := fun _ => fun
  | [d] => { results := [.lit (.bool false)], args := [d] }
  | _ => none }
def FnIsAlnumIsFoldedLetterOrDigitWrongFalsely : Prop := fnIsAlnumIsFoldedLetterOrDigitRow.holds Try.pinned (OpenSpec.ofChange fnIsAlnumIsFoldedLetterOrDigitWrong)

end Rows
end Go.Proofs.Qxb6613437a
