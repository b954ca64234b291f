/-
  No cell of these rows narrows 'for every input' (looked for: loops, veiled, ifaces, maps, wideKeys, modest, calm, conditions, laid).
  DERIVED. THE GIVEN ROWS OF THIS SEAT. 2 by the template 'for every input the law returns true; each argument reads behind the call as it read before'; 0 by the template 'total and deterministic' (their statements: Qxb6605908aTotals.lean).
  GIVEN WITH THE SEED: the statements are not yours to turn. If you find one false, say at which input.
  Laid BY PROGRAM, IN A SANDBOX (cutbox-rows.mjs): the forced cells as the released guide's own fill.sh prints them over the translation 9a45c6d9dc66af27… (all of the seat's roots in one cut). By AI agents, Wed Nov 11 2026. No macro, syntax, notation, axiom, sorry.
-/
import Derived.Test.Qxb6605908aChecked
import GoSem.Claim
import GoSem.ClaimJoined
import GoSem.ClaimMapViews
import Derived.JoinedTies
import Derived.KernelRfl
namespace Go.Proofs.Qxb6605908a
/- THE CELL 'sum', in the pinned program and in every row, IS THE sha256 OF THE DUMP (.gsa) THAT Qxb6605908aProg.lean LOADS. Nothing in Lean hashes anything: it is a label: what it is worth is what the hold of that sum in a sandbox is worth. -/
noncomputable def Try.pinned : Pinned := { name := "qxb6605908a", sum := "9a45c6d9dc66af27f63ba7b90e98ea3c9869d95837a2c0ef526cb826c6512acd", checked := Try.checked }
namespace Rows
def none {H : Type} : Left H := { results := [], args := [] }

/-- 'zzlaws_turn_b1.FnRefuseLastWinsAndEarlierReasonStands': WHATEVER THE INPUT: true; the input reads as it did. -/
def fnRefuseLastWinsAndEarlierReasonStandsSpec : ChangeSpec := { name := "fnRefuseLastWinsAndEarlierReasonStands", fn := fun _ => fun
  | [d1, d2, d3, d4] => { results := [.lit (.bool true)], args := [d1, d2, d3, d4] }
  | _ => none }
def fnRefuseLastWinsAndEarlierReasonStandsRow : OpenClaim := { program := "qxb6605908a", sum := "9a45c6d9dc66af27f63ba7b90e98ea3c9869d95837a2c0ef526cb826c6512acd", func := "example.com/samtal/samtal/zzlaws_turn_b1.FnRefuseLastWinsAndEarlierReasonStands", spec := "fnRefuseLastWinsAndEarlierReasonStands", apart := false }
def FnRefuseLastWinsAndEarlierReasonStandsSaid : Prop := fnRefuseLastWinsAndEarlierReasonStandsRow.holds Try.pinned (OpenSpec.ofChange fnRefuseLastWinsAndEarlierReasonStandsSpec)

/-- ITS FALSE NEIGHBOUR: 'it returns false'. Refute it at one input. -/
def fnRefuseLastWinsAndEarlierReasonStandsWrong : ChangeSpec := { name := "fnRefuseLastWinsAndEarlierReasonStands", fn := fun _ => fun
  | [d1, d2, d3, d4] => { results := [.lit (.bool false)], args := [d1, d2, d3, d4] }
  | _ => none }
def FnRefuseLastWinsAndEarlierReasonStandsWrongFalsely : Prop := fnRefuseLastWinsAndEarlierReasonStandsRow.holds Try.pinned (OpenSpec.ofChange fnRefuseLastWinsAndEarlierReasonStandsWrong)

/-- 'zzlaws_turn_b1.FnDropNullsClearsExactlyTheNulls': WHATEVER THE INPUT: true; the input reads as it did. -/
def fnDropNullsClearsExactlyTheNullsSpec : ChangeSpec := { name := "fnDropNullsClearsExactlyTheNulls", fn := fun _ => fun
  | [d] => { results := [.lit (.bool true)], args := [d] }
  | _ => none }
def fnDropNullsClearsExactlyTheNullsRow : OpenClaim := { program := "qxb6605908a", sum := "9a45c6d9dc66af27f63ba7b90e98ea3c9869d95837a2c0ef526cb826c6512acd", func := "example.com/samtal/samtal/zzlaws_turn_b1.FnDropNullsClearsExactlyTheNulls", spec := "fnDropNullsClearsExactlyTheNulls", apart := false }
def FnDropNullsClearsExactlyTheNullsSaid : Prop := fnDropNullsClearsExactlyTheNullsRow.holds Try.pinned (OpenSpec.ofChange fnDropNullsClearsExactlyTheNullsSpec)

/-- ITS FALSE NEIGHBOUR: 'it returns false'. Refute it at one input. -/
def fnDropNullsClearsExactlyTheNullsWrong : ChangeSpec := { name := "fnDropNullsClearsExactlyTheNulls", fn := fun _ => fun
  | [d] => { results := [.lit (.bool false)], args := [d] }
  | _ => none }
def FnDropNullsClearsExactlyTheNullsWrongFalsely : Prop := fnDropNullsClearsExactlyTheNullsRow.holds Try.pinned (OpenSpec.ofChange fnDropNullsClearsExactlyTheNullsWrong)

end Rows
end Go.Proofs.Qxb6605908a
