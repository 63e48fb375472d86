/-
  No cell of these rows narrows 'for every input' (looked for: loops, veiled, ifaces, maps, wideKeys, modest, calm, conditions, laid).
  DERIVED. THE GIVEN ROWS OF THIS SEAT. 3 by the template 'for every input the law returns true; each argument reads behind the call as it read before'; 0 by the template 'total and deterministic' (their statements: Qxb6613372aTotals.lean).
  GIVEN WITH THE SEED: the statements are not yours to turn. If you find one false, say at which input.
  Laid BY PROGRAM, IN A SANDBOX (cutbox-rows.mjs): the forced cells as the released guide's own fill.sh prints them over the translation 3e5cc59329b8c44a… (all of the seat's roots in one cut). By AI agents, Wed Nov 11 2026. No macro, syntax, notation, axiom, sorry.
-/
import Derived.Test.Qxb6613372aChecked
import GoSem.Claim
import GoSem.ClaimJoined
import GoSem.ClaimMapViews
import Derived.JoinedTies
import Derived.KernelRfl
namespace Go.Proofs.Qxb6613372a
/- THE CELL 'sum', in the pinned program and in every row, IS THE sha256 OF THE DUMP (.gsa) THAT Qxb6613372aProg.lean LOADS. Nothing in Lean hashes anything: it is a label: what it is worth is what the hold of that sum in a sandbox is worth. -/
noncomputable def Try.pinned : Pinned := { name := "qxb6613372a", sum := "3e5cc59329b8c44a5b6e70127b99f0825b1a3b527ff5d0e864e4d14e684252fb", checked := Try.checked }
namespace Rows
def none {H : Type} : Left H := { results := [], args := [] }

/-- 'zzlaws_internal_compile_b1.FnInstrAReadsBackMakeInstr': WHATEVER THE INPUT: true; the input reads as it did. -/
def fnInstrAReadsBackMakeInstrSpec : ChangeSpec := { name := "fnInstrAReadsBackMakeInstr", fn := fun _ => fun
  | [d1, d2, d3, d4] => { results := [.lit (.bool true)], args := [d1, d2, d3, d4] }
  | _ => none }
def fnInstrAReadsBackMakeInstrRow : OpenClaim := { program := "qxb6613372a", sum := "3e5cc59329b8c44a5b6e70127b99f0825b1a3b527ff5d0e864e4d14e684252fb", func := "example.com/cellwright/cellwright/zzlaws_internal_compile_b1.FnInstrAReadsBackMakeInstr", spec := "fnInstrAReadsBackMakeInstr", apart := false }
def FnInstrAReadsBackMakeInstrSaid : Prop := fnInstrAReadsBackMakeInstrRow.holds Try.pinned (OpenSpec.ofChange fnInstrAReadsBackMakeInstrSpec)

/-- ITS FALSE NEIGHBOUR: 'it returns false'. Refute it at one input. -/
def fnInstrAReadsBackMakeInstrWrong : ChangeSpec := { name := "fnInstrAReadsBackMakeInstr", fn := fun _ => fun
  | [d1, d2, d3, d4] => { results := [.lit (.bool false)], args := [d1, d2, d3, d4] }
  | _ => none }
def FnInstrAReadsBackMakeInstrWrongFalsely : Prop := fnInstrAReadsBackMakeInstrRow.holds Try.pinned (OpenSpec.ofChange fnInstrAReadsBackMakeInstrWrong)

/-- 'zzlaws_internal_compile_b1.FnInstrAWithTheOtherFieldsRebuildsTheWord': WHATEVER THE INPUT: true; the input reads as it did. -/
def fnInstrAWithTheOtherFieldsRebuildsTheWordSpec : ChangeSpec := { name := "fnInstrAWithTheOtherFieldsRebuildsTheWord", fn := fun _ => fun
  | [d] => { results := [.lit (.bool true)], args := [d] }
  | _ => none }
def fnInstrAWithTheOtherFieldsRebuildsTheWordRow : OpenClaim := { program := "qxb6613372a", sum := "3e5cc59329b8c44a5b6e70127b99f0825b1a3b527ff5d0e864e4d14e684252fb", func := "example.com/cellwright/cellwright/zzlaws_internal_compile_b1.FnInstrAWithTheOtherFieldsRebuildsTheWord", spec := "fnInstrAWithTheOtherFieldsRebuildsTheWord", apart := false }
def FnInstrAWithTheOtherFieldsRebuildsTheWordSaid : Prop := fnInstrAWithTheOtherFieldsRebuildsTheWordRow.holds Try.pinned (OpenSpec.ofChange fnInstrAWithTheOtherFieldsRebuildsTheWordSpec)

/-- ITS FALSE NEIGHBOUR: 'it returns false'. Refute it at one input. -/
def fnInstrAWithTheOtherFieldsRebuildsTheWordWrong : ChangeSpec := { name := "fnInstrAWithTheOtherFieldsRebuildsTheWord", fn := fun _ => fun
  | [d] => { results := [.lit (.bool false)], args := [d] }
  | _ => none }
def FnInstrAWithTheOtherFieldsRebuildsTheWordWrongFalsely : Prop := fnInstrAWithTheOtherFieldsRebuildsTheWordRow.holds Try.pinned (OpenSpec.ofChange fnInstrAWithTheOtherFieldsRebuildsTheWordWrong)

/-- 'zzlaws_internal_compile_b1.FnWalkFuncSplitsAtAnyCut': WHATEVER THE INPUT: true; the input reads as it did. -/
def fnWalkFuncSplitsAtAnyCutSpec : ChangeSpec := { name := "fnWalkFuncSplitsAtAnyCut", fn := fun _ => fun
  | [d1, d2, d3] => { results := [.lit (.bool true)], args := [d1, d2, d3] }
  | _ => none }
def fnWalkFuncSplitsAtAnyCutRow : OpenClaim := { program := "qxb6613372a", sum := "3e5cc59329b8c44a5b6e70127b99f0825b1a3b527ff5d0e864e4d14e684252fb", func := "example.com/cellwright/cellwright/zzlaws_internal_compile_b1.FnWalkFuncSplitsAtAnyCut", spec := "fnWalkFuncSplitsAtAnyCut", unfollowed := true, recurses := true, apart := false }
def FnWalkFuncSplitsAtAnyCutSaid : Prop := fnWalkFuncSplitsAtAnyCutRow.holds Try.pinned (OpenSpec.ofChange fnWalkFuncSplitsAtAnyCutSpec)

/-- ITS FALSE NEIGHBOUR: 'it returns false'. Refute it at one input. -/
def fnWalkFuncSplitsAtAnyCutWrong : ChangeSpec := { name := "fnWalkFuncSplitsAtAnyCut", fn := fun _ => fun
  | [d1, d2, d3] => { results := [.lit (.bool false)], args := [d1, d2, d3] }
  | _ => none }
def FnWalkFuncSplitsAtAnyCutWrongFalsely : Prop := fnWalkFuncSplitsAtAnyCutRow.holds Try.pinned (OpenSpec.ofChange fnWalkFuncSplitsAtAnyCutWrong)

end Rows
end Go.Proofs.Qxb6613372a
