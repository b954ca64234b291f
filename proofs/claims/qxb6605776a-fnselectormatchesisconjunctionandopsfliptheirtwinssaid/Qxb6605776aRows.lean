/-
  No cell of these rows narrows 'for every input' (looked for: loops, veiled, ifaces, maps, wideKeys, modest, calm, conditions, laid).
  DERIVED. THE GIVEN ROWS OF THIS SEAT. 1 by the template 'for every input the law returns true; each argument reads behind the call as it read before'; 0 by the template 'total and deterministic' (their statements: Qxb6605776aTotals.lean).
  GIVEN WITH THE SEED: the statements are not yours to turn. If you find one false, say at which input.
  Laid BY PROGRAM, IN A SANDBOX (cutbox-rows.mjs): the forced cells as the released guide's own fill.sh prints them over the translation af83f66e485f75ae… (all of the seat's roots in one cut). By AI agents, Wed Nov 11 2026. No macro, syntax, notation, axiom, sorry.
-/
import Derived.Test.Qxb6605776aChecked
import GoSem.Claim
import GoSem.ClaimJoined
import GoSem.ClaimMapViews
import Derived.JoinedTies
import Derived.KernelRfl
namespace Go.Proofs.Qxb6605776a
/- THE CELL 'sum', in the pinned program and in every row, IS THE sha256 OF THE DUMP (.gsa) THAT Qxb6605776aProg.lean LOADS. Nothing in Lean hashes anything: it is a label: what it is worth is what the hold of that sum in a sandbox is worth. -/
noncomputable def Try.pinned : Pinned := { name := "qxb6605776a", sum := "af83f66e485f75ae408396eb1f48385a49179c7d9be5e2d0b7a595425d83f197", checked := Try.checked }
namespace Rows
def none {H : Type} : Left H := { results := [], args := [] }

/-- 'zzlaws_api_b1.FnSelectorMatchesIsConjunctionAndOpsFlipTheirTwins': WHATEVER THE INPUT: true; the input reads as it did. -/
def fnSelectorMatchesIsConjunctionAndOpsFlipTheirTwinsSpec : ChangeSpec := { name := "fnSelectorMatchesIsConjunctionAndOpsFlipTheirTwins", fn := fun _ => fun
  | [d1, d2, d3, d4, d5] => { results := [.lit (.bool true)], args := [d1, d2, d3, d4, d5] }
  | _ => none }
def fnSelectorMatchesIsConjunctionAndOpsFlipTheirTwinsRow : OpenClaim := { program := "qxb6605776a", sum := "af83f66e485f75ae408396eb1f48385a49179c7d9be5e2d0b7a595425d83f197", func := "example.com/tidewatch/tidewatch/zzlaws_api_b1.FnSelectorMatchesIsConjunctionAndOpsFlipTheirTwins", spec := "fnSelectorMatchesIsConjunctionAndOpsFlipTheirTwins", unfollowed := true, recurses := true, apart := false }
def FnSelectorMatchesIsConjunctionAndOpsFlipTheirTwinsSaid : Prop := fnSelectorMatchesIsConjunctionAndOpsFlipTheirTwinsRow.holds Try.pinned (OpenSpec.ofChange fnSelectorMatchesIsConjunctionAndOpsFlipTheirTwinsSpec)

/-- ITS FALSE NEIGHBOUR: 'it returns false'. Refute it at one input. -/
def fnSelectorMatchesIsConjunctionAndOpsFlipTheirTwinsWrong : ChangeSpec := { name := "fnSelectorMatchesIsConjunctionAndOpsFlipTheirTwins", fn := fun _ => fun
  | [d1, d2, d3, d4, d5] => { results := [.lit (.bool false)], args := [d1, d2, d3, d4, d5] }
  | _ => none }
def FnSelectorMatchesIsConjunctionAndOpsFlipTheirTwinsWrongFalsely : Prop := fnSelectorMatchesIsConjunctionAndOpsFlipTheirTwinsRow.holds Try.pinned (OpenSpec.ofChange fnSelectorMatchesIsConjunctionAndOpsFlipTheirTwinsWrong)

end Rows
end Go.Proofs.Qxb6605776a
