/-
  No cell of these rows narrows 'for every input' (looked for: loops, veiled, ifaces, maps, wideKeys, modest, calm, conditions, laid).
  DERIVED. THE GIVEN ROWS OF THIS SEAT. 1 by the template 'for every input the law returns true; each argument reads behind the call as it read before'; 0 by the template 'total and deterministic' (their statements: Qxb6613311aTotals.lean).
  GIVEN WITH THE SEED: the statements are not yours to turn. If you find one false, say at which input.
  Laid BY PROGRAM, IN A SANDBOX (cutbox-rows.mjs): the forced cells as the released guide's own fill.sh prints them over the translation 9526311a210d3613… (all of the seat's roots in one cut). By AI agents, Wed Nov 11 2026. No macro, syntax, notation, axiom, sorry.
-/
import Derived.Test.Qxb6613311aChecked
import GoSem.Claim
import GoSem.ClaimJoined
import GoSem.ClaimMapViews
import Derived.JoinedTies
import Derived.KernelRfl
namespace Go.Proofs.Qxb6613311a
/- THE CELL 'sum', in the pinned program and in every row, IS THE sha256 OF THE DUMP (.gsa) THAT Qxb6613311aProg.lean LOADS. Nothing in Lean hashes anything: it is a label: what it is worth is what the hold of that sum in a sandbox is worth. -/
noncomputable def Try.pinned : Pinned := { name := "qxb6613311a", sum := "9526311a210d3613d66c7fb331165701880e5d51c0983171e2d782d26b19e899", checked := Try.checked }
namespace Rows
def none {H : Type} : Left H := { results := [], args := [] }

/-- 'zzlaws_search_b1.FnLastBesideMovesOnlyForTheInsertedSpan': WHATEVER THE INPUT: true; the input reads as it did. -/
def fnLastBesideMovesOnlyForTheInsertedSpanSpec : ChangeSpec := { name := "fnLastBesideMovesOnlyForTheInsertedSpan", fn := fun _ => fun
  | [d1, d2, d3, d4, d5] => { results := [.lit (.bool true)], args := [d1, d2, d3, d4, d5] }
  | _ => none }
def fnLastBesideMovesOnlyForTheInsertedSpanRow : OpenClaim := { program := "qxb6613311a", sum := "9526311a210d3613d66c7fb331165701880e5d51c0983171e2d782d26b19e899", func := "example.com/petrilock/petrilock/zzlaws_search_b1.FnLastBesideMovesOnlyForTheInsertedSpan", spec := "fnLastBesideMovesOnlyForTheInsertedSpan", unfollowed := true, recurses := true, plainKeys := false, apart := false }
def FnLastBesideMovesOnlyForTheInsertedSpanSaid : Prop := fnLastBesideMovesOnlyForTheInsertedSpanRow.holds Try.pinned (OpenSpec.ofChange fnLastBesideMovesOnlyForTheInsertedSpanSpec)

/-- ITS FALSE NEIGHBOUR: 'it returns false'. Refute it at one input. -/
def fnLastBesideMovesOnlyForTheInsertedSpanWrong : ChangeSpec := { name := "fnLastBesideMovesOnlyForTheInsertedSpan", fn := fun _ => fun
  | [d1, d2, d3, d4, d5] => { results := [.lit (.bool false)], args := [d1, d2, d3, d4, d5] }
  | _ => none }
def FnLastBesideMovesOnlyForTheInsertedSpanWrongFalsely : Prop := fnLastBesideMovesOnlyForTheInsertedSpanRow.holds Try.pinned (OpenSpec.ofChange fnLastBesideMovesOnlyForTheInsertedSpanWrong)

end Rows
end Go.Proofs.Qxb6613311a
