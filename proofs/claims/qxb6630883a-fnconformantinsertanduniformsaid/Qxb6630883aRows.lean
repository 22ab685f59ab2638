/-
  No cell of these rows narrows 'for every input' (looked for: loops, veiled, ifaces, maps, wideKeys, modest, calm, conditions, laid).
  DERIVED. THE GIVEN ROWS OF THIS SEAT. 2 by the template 'for every input the law returns true; each argument reads behind the call as it read before'; 0 by the template 'total and deterministic' (their statements: Qxb6630883aTotals.lean).
  GIVEN WITH THE SEED: the statements are not yours to turn. If you find one false, say at which input.
  Laid BY PROGRAM, IN A SANDBOX (cutbox-rows.mjs): the forced cells as the released guide's own fill.sh prints them over the translation 851012af74a8cafe… (all of the seat's roots in one cut). By AI agents, Wed Nov 11 2026. No macro, syntax, notation, axiom, sorry.
-/
import Derived.Test.Qxb6630883aChecked
import GoSem.Claim
import GoSem.ClaimJoined
import GoSem.ClaimMapViews
import Derived.JoinedTies
import Derived.KernelRfl
namespace Go.Proofs.Qxb6630883a
/- THE CELL 'sum', in the pinned program and in every row, IS THE sha256 OF THE DUMP (.gsa) THAT Qxb6630883aProg.lean LOADS. Nothing in Lean hashes anything: it is a label: what it is worth is what the hold of that sum in a sandbox is worth. -/
noncomputable def Try.pinned : Pinned := { name := "qxb6630883a", sum := "851012af74a8cafec47e6e7219f669ab8af735523c2fb37956d4a95a95176d02", checked := Try.checked }
namespace Rows
def none {H : Type} : Left H := { results := [], args := [] }

/-- 'zzlaws_root_b1.FnConformantSplitAndDropErrors': WHATEVER THE INPUT: true; the input reads as it did. -/
def fnConformantSplitAndDropErrorsSpec : ChangeSpec := { name := "fnConformantSplitAndDropErrors", fn := fun _ => fun
  | [d1, d2] => { results := [.lit (.bool true)], args := [d1, d2] }
  | _ => none }
def fnConformantSplitAndDropErrorsRow : OpenClaim := { program := "qxb6630883a", sum := "851012af74a8cafec47e6e7219f669ab8af735523c2fb37956d4a95a95176d02", func := "example.com/articlewright/articlewright/zzlaws_root_b1.FnConformantSplitAndDropErrors", spec := "fnConformantSplitAndDropErrors", apart := false }
def FnConformantSplitAndDropErrorsSaid : Prop := fnConformantSplitAndDropErrorsRow.holds Try.pinned (OpenSpec.ofChange fnConformantSplitAndDropErrorsSpec)

/-- ITS FALSE NEIGHBOUR: 'it returns false'. Refute it at one input. -/
def fnConformantSplitAndDropErrorsWrong : ChangeSpec := { name := "fnConformantSplitAndDropErrors", fn := fun _ => fun
  | [d1, d2] => { results := [.lit (.bool false)], args := [d1, d2] }
  | _ => none }
def FnConformantSplitAndDropErrorsWrongFalsely : Prop := fnConformantSplitAndDropErrorsRow.holds Try.pinned (OpenSpec.ofChange fnConformantSplitAndDropErrorsWrong)

/-- 'zzlaws_root_b1.FnConformantInsertAndUniform': WHATEVER THE INPUT: true; the input reads as it did. -/
def fnConformantInsertAndUniformSpec : ChangeSpec := { name := "fnConformantInsertAndUniform", fn := fun _ => fun
  | [d1, d2, d3, d4, d5, d6] => { results := [.lit (.bool true)], args := [d1, d2, d3, d4, d5, d6] }
  | _ => none }
def fnConformantInsertAndUniformRow : OpenClaim := { program := "qxb6630883a", sum := "851012af74a8cafec47e6e7219f669ab8af735523c2fb37956d4a95a95176d02", func := "example.com/articlewright/articlewright/zzlaws_root_b1.FnConformantInsertAndUniform", spec := "fnConformantInsertAndUniform", apart := false }
def FnConformantInsertAndUniformSaid : Prop := fnConformantInsertAndUniformRow.holds Try.pinned (OpenSpec.ofChange fnConformantInsertAndUniformSpec)

/-- ITS FALSE NEIGHBOUR: 'it returns false'. Refute it at one input. -/
def fnConformantInsertAndUniformWrong : ChangeSpec := { name := "fnConformantInsertAndUniform", fn := fun _ => fun
  | [d1, d2, d3, d4, d5, d6] => { results := [.lit (.bool false)], args := [d1, d2, d3, d4, d5, d6] }
  | _ => none }
def FnConformantInsertAndUniformWrongFalsely : Prop := fnConformantInsertAndUniformRow.holds Try.pinned (OpenSpec.ofChange fnConformantInsertAndUniformWrong)

end Rows
end Go.Proofs.Qxb6630883a
