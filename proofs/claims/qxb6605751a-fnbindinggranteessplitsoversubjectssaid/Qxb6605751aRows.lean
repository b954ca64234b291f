/-
  No cell of these rows narrows 'for every input' (looked for: loops, veiled, ifaces, maps, wideKeys, modest, calm, conditions, laid).
  DERIVED. THE GIVEN ROWS OF THIS SEAT. 2 by the template 'for every input the law returns true; each argument reads behind the call as it read before'; 0 by the template 'total and deterministic' (their statements: Qxb6605751aTotals.lean).
  GIVEN WITH THE SEED: the statements are not yours to turn. If you find one false, say at which input.
  Laid BY PROGRAM, IN A SANDBOX (cutbox-rows.mjs): the forced cells as the released guide's own fill.sh prints them over the translation a702b6d52ca97edb… (all of the seat's roots in one cut). By AI agents, Wed Nov 11 2026. No macro, syntax, notation, axiom, sorry.
-/
import Derived.Test.Qxb6605751aChecked
import GoSem.Claim
import GoSem.ClaimJoined
import GoSem.ClaimMapViews
import Derived.JoinedTies
import Derived.KernelRfl
namespace Go.Proofs.Qxb6605751a
/- THE CELL 'sum', in the pinned program and in every row, IS THE sha256 OF THE DUMP (.gsa) THAT Qxb6605751aProg.lean LOADS. Nothing in Lean hashes anything: it is a label: what it is worth is what the hold of that sum in a sandbox is worth. -/
noncomputable def Try.pinned : Pinned := { name := "qxb6605751a", sum := "a702b6d52ca97edb3b298dfeab2ceb4c4e18ed340401f59d335667f3f595b0e2", checked := Try.checked }
namespace Rows
def none {H : Type} : Left H := { results := [], args := [] }

/-- 'zzlaws_internal_api_b1.FnCloseMembersClosesAppendedMembers': WHATEVER THE INPUT: true; the input reads as it did. -/
def fnCloseMembersClosesAppendedMembersSpec : ChangeSpec := { name := "fnCloseMembersClosesAppendedMembers", fn := fun _ => fun
  | [d1, d2] => { results := [.lit (.bool true)], args := [d1, d2] }
  | _ => none }
def fnCloseMembersClosesAppendedMembersRow : OpenClaim := { program := "qxb6605751a", sum := "a702b6d52ca97edb3b298dfeab2ceb4c4e18ed340401f59d335667f3f595b0e2", func := "example.com/tokenwright/tokenwright/zzlaws_internal_api_b1.FnCloseMembersClosesAppendedMembers", spec := "fnCloseMembersClosesAppendedMembers", apart := false }
def FnCloseMembersClosesAppendedMembersSaid : Prop := fnCloseMembersClosesAppendedMembersRow.holds Try.pinned (OpenSpec.ofChange fnCloseMembersClosesAppendedMembersSpec)

/-- ITS FALSE NEIGHBOUR: 'it returns false'. Refute it at one input. -/
def fnCloseMembersClosesAppendedMembersWrong : ChangeSpec := { name := "fnCloseMembersClosesAppendedMembers", fn := fun _ => fun
  | [d1, d2] => { results := [.lit (.bool false)], args := [d1, d2] }
  | _ => none }
def FnCloseMembersClosesAppendedMembersWrongFalsely : Prop := fnCloseMembersClosesAppendedMembersRow.holds Try.pinned (OpenSpec.ofChange fnCloseMembersClosesAppendedMembersWrong)

/-- 'zzlaws_internal_api_b1.FnBindingGranteesSplitsOverSubjects': WHATEVER THE INPUT: true; the input reads as it did. -/
def fnBindingGranteesSplitsOverSubjectsSpec : ChangeSpec := { name := "fnBindingGranteesSplitsOverSubjects", fn := fun _ => fun
  | [d1, d2] => { results := [.lit (.bool true)], args := [d1, d2] }
  | _ => none }
def fnBindingGranteesSplitsOverSubjectsRow : OpenClaim := { program := "qxb6605751a", sum := "a702b6d52ca97edb3b298dfeab2ceb4c4e18ed340401f59d335667f3f595b0e2", func := "example.com/tokenwright/tokenwright/zzlaws_internal_api_b1.FnBindingGranteesSplitsOverSubjects", spec := "fnBindingGranteesSplitsOverSubjects", apart := false }
def FnBindingGranteesSplitsOverSubjectsSaid : Prop := fnBindingGranteesSplitsOverSubjectsRow.holds Try.pinned (OpenSpec.ofChange fnBindingGranteesSplitsOverSubjectsSpec)

/-- ITS FALSE NEIGHBOUR: 'it returns false'. Refute it at one input. -/
def fnBindingGranteesSplitsOverSubjectsWrong : ChangeSpec := { name := "fnBindingGranteesSplitsOverSubjects", fn := fun _ => fun
  | [d1, d2] => { results := [.lit (.bool false)], args := [d1, d2] }
  | _ => none }
def FnBindingGranteesSplitsOverSubjectsWrongFalsely : Prop := fnBindingGranteesSplitsOverSubjectsRow.holds Try.pinned (OpenSpec.ofChange fnBindingGranteesSplitsOverSubjectsWrong)

end Rows
end Go.Proofs.Qxb6605751a
