/-
  DERIVED. GIVEN WITH THE SEED: THE CARDS: each row of Qxb6605807aFmtRows.lean that lists a variable, with what it lists TIED to the program's text (the seventh form; the later family's looks); each row that meets fmt, with fmt's text TOLD by the authors' own Lean function (tested against real Go, not proved from fmt's source: count such statements apart). THE CARD IS WHAT COUNTS. Prove the row's statement (the work); the ties are given (Qxb6605807aFmtTie.lean); close each card by the builder's one call (the guide's Derived/Test/ToyasCard.lean, 'card_holds'). Laid BY PROGRAM, IN A SANDBOX (cutbox-door.mjs). By AI agents, Wed Nov 11 2026. No macro, syntax, notation, axiom, sorry.
-/
import Derived.Test.Qxb6605807aFmtRows
import GoSem.ClaimSeven
namespace Go.Proofs.Qxb6605807aFmt
namespace Rows

/-- THE TOLD CARD OF 'zzlaws_internal_scalebook_b1.FnBondCodeIsIb26AndZeroPaddedDecimal'. -/
def fnBondCodeIsIb26AndZeroPaddedDecimalCard : Claim7 := { stood := { row := fnBondCodeIsIb26AndZeroPaddedDecimalRow, standIns := [], harness := (true, "f473a3f98899a4a3d8ce18076426b2c8c32966a931567ac666e4fdbf6319f25d"), looks := false }, told := true, goes := false }
def FnBondCodeIsIb26AndZeroPaddedDecimalToldSaid : Prop := Claim7.holds Tryf.pinned (.plain (OpenSpec.ofChange fnBondCodeIsIb26AndZeroPaddedDecimalSpec)) fnBondCodeIsIb26AndZeroPaddedDecimalCard
/-- ITS FALSE NEIGHBOUR. Refute it at one input. -/
def FnBondCodeIsIb26AndZeroPaddedDecimalToldWrongFalsely : Prop := Claim7.holds Tryf.pinned (.plain (OpenSpec.ofChange fnBondCodeIsIb26AndZeroPaddedDecimalWrong)) fnBondCodeIsIb26AndZeroPaddedDecimalCard

/-- THE TOLD CARD OF 'zzlaws_internal_scalebook_b1.FnBondCodeReadsBackAndSortsAsItsNumber'. -/
def fnBondCodeReadsBackAndSortsAsItsNumberCard : Claim7 := { stood := { row := fnBondCodeReadsBackAndSortsAsItsNumberRow, standIns := [], harness := (true, "f473a3f98899a4a3d8ce18076426b2c8c32966a931567ac666e4fdbf6319f25d"), looks := false }, told := true, goes := false }
def FnBondCodeReadsBackAndSortsAsItsNumberToldSaid : Prop := Claim7.holds Tryf.pinned (.plain (OpenSpec.ofChange fnBondCodeReadsBackAndSortsAsItsNumberSpec)) fnBondCodeReadsBackAndSortsAsItsNumberCard
/-- ITS FALSE NEIGHBOUR. Refute it at one input. -/
def FnBondCodeReadsBackAndSortsAsItsNumberToldWrongFalsely : Prop := Claim7.holds Tryf.pinned (.plain (OpenSpec.ofChange fnBondCodeReadsBackAndSortsAsItsNumberWrong)) fnBondCodeReadsBackAndSortsAsItsNumberCard
end Rows
end Go.Proofs.Qxb6605807aFmt
