/-
  No cell of these rows narrows 'for every input' (looked for: loops, veiled, ifaces, maps, wideKeys, modest, calm, conditions, laid).
  DERIVED. THE GIVEN ROWS OF THIS SEAT. 2 by the template 'for every input the law returns true; each argument reads behind the call as it read before'; 0 by the template 'total and deterministic' (their statements: Qxb6630823aTotals.lean).
  GIVEN WITH THE SEED: the statements are not yours to turn. If you find one false, say at which input.
  Laid BY PROGRAM, IN A SANDBOX (cutbox-rows.mjs): the forced cells as the released guide's own fill.sh prints them over the translation 4bcb48754b231bf8… (all of the seat's roots in one cut). By AI agents, Wed Nov 11 2026. No macro, syntax, notation, axiom, sorry.
-/
import Derived.Test.Qxb6630823aChecked
import GoSem.Claim
import GoSem.ClaimJoined
import GoSem.ClaimMapViews
import Derived.JoinedTies
import Derived.KernelRfl
namespace Go.Proofs.Qxb6630823a
/- THE CELL 'sum', in the pinned program and in every row, IS THE sha256 OF THE DUMP (.gsa) THAT Qxb6630823aProg.lean LOADS. Nothing in Lean hashes anything: it is a label: what it is worth is what the hold of that sum in a sandbox is worth. -/
noncomputable def Try.pinned : Pinned := { name := "qxb6630823a", sum := "4bcb48754b231bf8a65aa8f15155a5ea4c58ed965aecfdd8c48251d851d5a8ed", checked := Try.checked }
namespace Rows
def none {H : Type} : Left H := { results := [], args := [] }

/-- 'zzlaws_raft_b1.FnMemberFindsWhatIsPutIn': WHATEVER THE INPUT: true; the input reads as it did. -/
def fnMemberFindsWhatIsPutInSpec : ChangeSpec := { name := "fnMemberFindsWhatIsPutIn", fn := fun _ => fun
  | [d1, d2, d3, d4, d5, d6, d7, d8, d9, d10] => { results := [.lit (.bool true)], args := [d1, d2, d3, d4, d5, d6, d7, d8, d9, d10] }
  | _ => none }
def fnMemberFindsWhatIsPutInRow : OpenClaim := { program := "qxb6630823a", sum := "4bcb48754b231bf8a65aa8f15155a5ea4c58ed965aecfdd8c48251d851d5a8ed", func := "example.com/quorumline/quorumline/zzlaws_raft_b1.FnMemberFindsWhatIsPutIn", spec := "fnMemberFindsWhatIsPutIn", unfollowed := true, recurses := true, apart := false }
def FnMemberFindsWhatIsPutInSaid : Prop := fnMemberFindsWhatIsPutInRow.holds Try.pinned (OpenSpec.ofChange fnMemberFindsWhatIsPutInSpec)

/-- ITS FALSE NEIGHBOUR: 'it returns false'. Refute it at one input. -/
def fnMemberFindsWhatIsPutInWrong : ChangeSpec := { name := "fnMemberFindsWhatIsPutIn", fn := fun _ => fun
  | [d1, d2, d3, d4, d5, d6, d7, d8, d9, d10] => { results := [.lit (.bool false)], args := [d1, d2, d3, d4, d5, d6, d7, d8, d9, d10] }
  | _ => none }
def FnMemberFindsWhatIsPutInWrongFalsely : Prop := fnMemberFindsWhatIsPutInRow.holds Try.pinned (OpenSpec.ofChange fnMemberFindsWhatIsPutInWrong)

/-- 'zzlaws_raft_b1.FnMemberFindsListedIDsMembersFirst': WHATEVER THE INPUT: true; the input reads as it did. -/
def fnMemberFindsListedIDsMembersFirstSpec : ChangeSpec := { name := "fnMemberFindsListedIDsMembersFirst", fn := fun _ => fun
  | [d1, d2, d3, d4, d5, d6, d7, d8] => { results := [.lit (.bool true)], args := [d1, d2, d3, d4, d5, d6, d7, d8] }
  | _ => none }
def fnMemberFindsListedIDsMembersFirstRow : OpenClaim := { program := "qxb6630823a", sum := "4bcb48754b231bf8a65aa8f15155a5ea4c58ed965aecfdd8c48251d851d5a8ed", func := "example.com/quorumline/quorumline/zzlaws_raft_b1.FnMemberFindsListedIDsMembersFirst", spec := "fnMemberFindsListedIDsMembersFirst", unfollowed := true, recurses := true, apart := false }
def FnMemberFindsListedIDsMembersFirstSaid : Prop := fnMemberFindsListedIDsMembersFirstRow.holds Try.pinned (OpenSpec.ofChange fnMemberFindsListedIDsMembersFirstSpec)

/-- ITS FALSE NEIGHBOUR: 'it returns false'. Refute it at one input. -/
def fnMemberFindsListedIDsMembersFirstWrong : ChangeSpec := { name := "fnMemberFindsListedIDsMembersFirst", fn := fun _ => fun
  | [d1, d2, d3, d4, d5, d6, d7, d8] => { results := [.lit (.bool false)], args := [d1, d2, d3, d4, d5, d6, d7, d8] }
  | _ => none }
def FnMemberFindsListedIDsMembersFirstWrongFalsely : Prop := fnMemberFindsListedIDsMembersFirstRow.holds Try.pinned (OpenSpec.ofChange fnMemberFindsListedIDsMembersFirstWrong)

end Rows
end Go.Proofs.Qxb6630823a
