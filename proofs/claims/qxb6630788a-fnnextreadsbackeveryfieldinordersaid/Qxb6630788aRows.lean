/-
  No cell of these rows narrows 'for every input' (looked for: loops, veiled, ifaces, maps, wideKeys, modest, calm, conditions, laid).
  DERIVED. THE GIVEN ROWS OF THIS SEAT. 2 by the template 'for every input the law returns true; each argument reads behind the call as it read before'; 0 by the template 'total and deterministic' (their statements: Qxb6630788aTotals.lean).
  GIVEN WITH THE SEED: the statements are not yours to turn. If you find one false, say at which input.
  Laid BY PROGRAM, IN A SANDBOX (cutbox-rows.mjs): the forced cells as the released guide's own fill.sh prints them over the translation 0dcdc55a0b6b1412… (all of the seat's roots in one cut). By AI agents, Wed Nov 11 2026. No macro, syntax, notation, axiom, sorry.
-/
import Derived.Test.Qxb6630788aChecked
import GoSem.Claim
import GoSem.ClaimJoined
import GoSem.ClaimMapViews
import Derived.JoinedTies
import Derived.KernelRfl
namespace Go.Proofs.Qxb6630788a
/- THE CELL 'sum', in the pinned program and in every row, IS THE sha256 OF THE DUMP (.gsa) THAT Qxb6630788aProg.lean LOADS. Nothing in Lean hashes anything: it is a label: what it is worth is what the hold of that sum in a sandbox is worth. -/
noncomputable def Try.pinned : Pinned := { name := "qxb6630788a", sum := "0dcdc55a0b6b1412c2864da4907004f03239b70fe2ec2e919f7c9136f175d3ff", checked := Try.checked }
namespace Rows
def none {H : Type} : Left H := { results := [], args := [] }

/-- 'zzlaws_expiring_b1.FnNextReadsOneFieldAndLeavesTail': WHATEVER THE INPUT: true; the input reads as it did. -/
def fnNextReadsOneFieldAndLeavesTailSpec : ChangeSpec := { name := "fnNextReadsOneFieldAndLeavesTail", fn := fun _ => fun
  | [d1, d2] => { results := [.lit (.bool true)], args := [d1, d2] }
  | _ => none }
def fnNextReadsOneFieldAndLeavesTailRow : OpenClaim := { program := "qxb6630788a", sum := "0dcdc55a0b6b1412c2864da4907004f03239b70fe2ec2e919f7c9136f175d3ff", func := "example.com/sigillum/sigillum/zzlaws_expiring_b1.FnNextReadsOneFieldAndLeavesTail", spec := "fnNextReadsOneFieldAndLeavesTail", apart := false }
def FnNextReadsOneFieldAndLeavesTailSaid : Prop := fnNextReadsOneFieldAndLeavesTailRow.holds Try.pinned (OpenSpec.ofChange fnNextReadsOneFieldAndLeavesTailSpec)

/-- ITS FALSE NEIGHBOUR: 'it returns false'. Refute it at one input. -/
def fnNextReadsOneFieldAndLeavesTailWrong : ChangeSpec := { name := "fnNextReadsOneFieldAndLeavesTail", fn := fun _ => fun
  | [d1, d2] => { results := [.lit (.bool false)], args := [d1, d2] }
  | _ => none }
def FnNextReadsOneFieldAndLeavesTailWrongFalsely : Prop := fnNextReadsOneFieldAndLeavesTailRow.holds Try.pinned (OpenSpec.ofChange fnNextReadsOneFieldAndLeavesTailWrong)

/-- 'zzlaws_expiring_b1.FnNextReadsBackEveryFieldInOrder': WHATEVER THE INPUT: true; the input reads as it did. -/
def fnNextReadsBackEveryFieldInOrderSpec : ChangeSpec := { name := "fnNextReadsBackEveryFieldInOrder", fn := fun _ => fun
  | [d] => { results := [.lit (.bool true)], args := [d] }
  | _ => none }
def fnNextReadsBackEveryFieldInOrderRow : OpenClaim := { program := "qxb6630788a", sum := "0dcdc55a0b6b1412c2864da4907004f03239b70fe2ec2e919f7c9136f175d3ff", func := "example.com/sigillum/sigillum/zzlaws_expiring_b1.FnNextReadsBackEveryFieldInOrder", spec := "fnNextReadsBackEveryFieldInOrder", apart := false }
def FnNextReadsBackEveryFieldInOrderSaid : Prop := fnNextReadsBackEveryFieldInOrderRow.holds Try.pinned (OpenSpec.ofChange fnNextReadsBackEveryFieldInOrderSpec)

/-- ITS FALSE NEIGHBOUR: 'it returns false'. Refute it at one input. -/
def fnNextReadsBackEveryFieldInOrderWrong : ChangeSpec := { name := "fnNextReadsBackEveryFieldInOrder", fn := fun _ => fun
  | [d] => { results := [.lit (.bool false)], args := [d] }
  | _ => none }
def FnNextReadsBackEveryFieldInOrderWrongFalsely : Prop := fnNextReadsBackEveryFieldInOrderRow.holds Try.pinned (OpenSpec.ofChange fnNextReadsBackEveryFieldInOrderWrong)

end Rows
end Go.Proofs.Qxb6630788a
