/-
  No cell of these rows narrows 'for every input' (looked for: loops, veiled, ifaces, maps, wideKeys, modest, calm, conditions, laid).
  DERIVED. THE GIVEN ROWS OF THIS SEAT. 2 by the template 'for every input the law returns true; each argument reads behind the call as it read before'; 0 by the template 'total and deterministic' (their statements: Qxb6605807aFmtTotals.lean).
  GIVEN WITH THE SEED: the statements are not yours to turn. If you find one false, say at which input.
  Laid BY PROGRAM, IN A SANDBOX (cutbox-rows.mjs): the forced cells as the released guide's own fill.sh prints them over the translation f152f096bb21da78… (all of the seat's roots in one cut). By AI agents, Wed Nov 11 2026. No macro, syntax, notation, axiom, sorry.
-/
import Derived.Test.Qxb6605807aFmtChecked
import GoSem.Claim
import GoSem.ClaimJoined
import GoSem.ClaimMapViews
import Derived.JoinedTies
import Derived.KernelRfl
namespace Go.Proofs.Qxb6605807aFmt
/- THE CELL 'sum', in the pinned program and in every row, IS THE sha256 OF THE DUMP (.gsa) THAT Qxb6605807aFmtProg.lean LOADS. Nothing in Lean hashes anything: it is a label: what it is worth is what the hold of that sum in a sandbox is worth. -/
noncomputable def Tryf.pinned : Pinned := { name := "qxb6605807afmt", sum := "f152f096bb21da78c85207077b815d57dcf120208d9165a3027b3e50043398df", checked := Tryf.checked }
namespace Rows
def none {H : Type} : Left H := { results := [], args := [] }

/-- 'zzlaws_internal_scalebook_b1.FnBondCodeIsIb26AndZeroPaddedDecimal': WHATEVER THE INPUT: true; the input reads as it did. -/
def fnBondCodeIsIb26AndZeroPaddedDecimalSpec : ChangeSpec := { name := "fnBondCodeIsIb26AndZeroPaddedDecimal", fn := fun _ => fun
  | [d] => { results := [.lit (.bool true)], args := [d] }
  | _ => none }
def fnBondCodeIsIb26AndZeroPaddedDecimalRow : OpenClaim := { program := "qxb6605807afmt", sum := "f152f096bb21da78c85207077b815d57dcf120208d9165a3027b3e50043398df", func := "example.com/custodex/custodex/zzlaws_internal_scalebook_b1.FnBondCodeIsIb26AndZeroPaddedDecimal", spec := "fnBondCodeIsIb26AndZeroPaddedDecimal", stops := ["fmt.Sprintf"], inPlace := ["fmt.Sprintf"], apart := false }
/-- NO THEOREM (fmt's text is open here; it may be false): for the released tool's asking of the row's closed facts alone. THE STATEMENT IS 'FnBondCodeIsIb26AndZeroPaddedDecimalToldSaid' (Qxb6605807aFmtCards.lean). -/
def FnBondCodeIsIb26AndZeroPaddedDecimalFormAsk : Prop := fnBondCodeIsIb26AndZeroPaddedDecimalRow.holds Tryf.pinned (OpenSpec.ofChange fnBondCodeIsIb26AndZeroPaddedDecimalSpec)

/-- ITS FALSE NEIGHBOUR: 'it returns false'. Refute it at one input. -/
def fnBondCodeIsIb26AndZeroPaddedDecimalWrong : ChangeSpec := { name := "fnBondCodeIsIb26AndZeroPaddedDecimal", fn := fun _ => fun
  | [d] => { results := [.lit (.bool false)], args := [d] }
  | _ => none }
def FnBondCodeIsIb26AndZeroPaddedDecimalWrongFormAsk : Prop := fnBondCodeIsIb26AndZeroPaddedDecimalRow.holds Tryf.pinned (OpenSpec.ofChange fnBondCodeIsIb26AndZeroPaddedDecimalWrong)

/-- 'zzlaws_internal_scalebook_b1.FnBondCodeReadsBackAndSortsAsItsNumber': WHATEVER THE INPUT: true; the input reads as it did. -/
def fnBondCodeReadsBackAndSortsAsItsNumberSpec : ChangeSpec := { name := "fnBondCodeReadsBackAndSortsAsItsNumber", fn := fun _ => fun
  | [d1, d2] => { results := [.lit (.bool true)], args := [d1, d2] }
  | _ => none }
def fnBondCodeReadsBackAndSortsAsItsNumberRow : OpenClaim := { program := "qxb6605807afmt", sum := "f152f096bb21da78c85207077b815d57dcf120208d9165a3027b3e50043398df", func := "example.com/custodex/custodex/zzlaws_internal_scalebook_b1.FnBondCodeReadsBackAndSortsAsItsNumber", spec := "fnBondCodeReadsBackAndSortsAsItsNumber", stops := ["fmt.Sprintf"], inPlace := ["fmt.Sprintf"], apart := false }
/-- NO THEOREM (fmt's text is open here; it may be false): for the released tool's asking of the row's closed facts alone. THE STATEMENT IS 'FnBondCodeReadsBackAndSortsAsItsNumberToldSaid' (Qxb6605807aFmtCards.lean). -/
def FnBondCodeReadsBackAndSortsAsItsNumberFormAsk : Prop := fnBondCodeReadsBackAndSortsAsItsNumberRow.holds Tryf.pinned (OpenSpec.ofChange fnBondCodeReadsBackAndSortsAsItsNumberSpec)

/-- ITS FALSE NEIGHBOUR: 'it returns false'. Refute it at one input. -/
def fnBondCodeReadsBackAndSortsAsItsNumberWrong : ChangeSpec := { name := "fnBondCodeReadsBackAndSortsAsItsNumber", fn := fun _ => fun
  | [d1, d2] => { results := [.lit (.bool false)], args := [d1, d2] }
  | _ => none }
def FnBondCodeReadsBackAndSortsAsItsNumberWrongFormAsk : Prop := fnBondCodeReadsBackAndSortsAsItsNumberRow.holds Tryf.pinned (OpenSpec.ofChange fnBondCodeReadsBackAndSortsAsItsNumberWrong)

end Rows
end Go.Proofs.Qxb6605807aFmt
