/-
  THE CLOSED FACTS FOR A WALK OVER fmt.Sprintf's STOP (after the guide's LabelFmt), THE TEXT, AND THE WALKS of bondCode (8), ZZbondCode (5).
-/
import Derived.Test.Qxb6605807aFmtCards
import Derived.WalkKit
import Derived.WalkSpells
import Derived.WalkLawsBesides
import Derived.Stop.CallBack
import Derived.Stop.IfaceNil
import Derived.Stop.FmtTextWidths
import Derived.Stop.FmtTextKit
import Derived.Stop.JoinedTold
import Derived.Stop.Texts
namespace Go.Proofs.Qxb6605807aFmt.Bc
open Go.RowKit Go.Kit Go.Extern.Stop Go.Stop Go.Extern

theorem call9 (args : Array Value) (w : World) : (callFunc 9 args).run Tryf.prog w = ((FmtStop.sprintf #[9, 47] #[9] args).run Tryf.prog w).andThen fun v w' => .ok (.value v) w' :=
  run_callFunc_extern Tryf.func9 (by kernel_rfl) (by kernel_rfl) (by kernel_rfl) (by kernel_rfl) args w
theorem guardRun (name : String) (w : World) : (FmtStop.guard name).run Tryf.prog w = .ok () w := by kernel_rfl
theorem fmt0 : FmtStop.printed? ⟨#[105, 98, 50, 54, 37, 48, 53, 100]⟩ 1 = some [(0, 100, false)] := by kernel_rfl
theorem fmt0r (w : World) : (FmtDoors.printed ⟨#[105, 98, 50, 54, 37, 48, 53, 100]⟩ 1).run Tryf.prog w = .ok [(0, 100, false)] w := by kernel_rfl
def shape3 : List UInt8 := [5, 3, 0, 0, 0, 0, 0, 0, 0, 105, 110, 116]
theorem op3_100 (name : String) (x : Int) (w : World) : (FmtStop.operand name false 100 false (.iface 3 (.int .i64 x))).run Tryf.prog w = .ok (shape3, Go.Extern.Stop.digits 8 (x % 2 ^ 64).toNat) w := by kernel_rfl

/-- WHAT fmt IS ASKED. -/
def reading (i : Int) : List (List UInt8) := [[105, 98, 50, 54, 37, 48, 53, 100], shape3, digits 8 (i % 18446744073709551616).toNat]
/-- THE TEXT: ib26 and the number in five signs at least. -/
def codeText (i : Int) : List UInt8 := [105, 98, 50, 54] ++ FmtText.zeros 5 i
/-- The text as Go's string. -/
def code (i : Int) : ByteArray := ⟨(codeText i).toArray⟩

theorem t_parse : (FmtText.parse [105, 98, 50, 54, 37, 48, 53, 100]).map FmtText.glue = some [.lit [105, 98, 50, 54], .verb { widPresent := true, wid := 5, zero := true } 100] := by rfl
theorem t_text (i : Int) (hw : (Lit.int .i64 i).wf = true) : FmtText.text "fmt.Sprintf" (reading i) = some (codeText i) := by
  have hi := FmtText.operand_int_at (sh := shape3) (k := .i64) rfl rfl i hw
  rw [reading, FmtText.text_sprintf_glued t_parse (FmtText.operands_cons hi FmtText.operands_nil)]
  simp [FmtText.render, FmtText.printArg_d_zero _ 5 _ hw, codeText]

theorem t_code (F : Interp) (i : Int) (hw : (Lit.int .i64 i).wf = true) : FmtStop.textOf (F.told "fmt.Sprintf" (reading i) 0) = code i := by
  have l1 := FmtText.zeros_length_le' 5 hw
  have ht := told_string F (t_text i hw) (by simp [codeText]; omega)
  have hl := textOf_list F.told "fmt.Sprintf" (reading i)
  rw [ht] at hl
  generalize FmtStop.textOf (F.told "fmt.Sprintf" (reading i) 0) = b at hl
  cases b
  simp [code, ← hl]

set_option maxHeartbeats 400000 in
theorem bond_raw (F : Interp) (i : Int) (w : World) (hF : F.answers w.tape) :
    Calls Tryf.prog 8 #[.int .i64 i] w fun e w' => e = .returned (.string (FmtStop.textOf (F "fmt.Sprintf" (reading i) 0))) ∧ w' = (w.alloc (.cells #[.iface 3 (.int .i64 i)] 20)).drew := by
  have hF' := answers_open hF
  have k1 := call9
  have k2 := guardRun
  have k3 := fmt0
  have k4 := fmt0r
  have k5 := op3_100
  go_enter Tryf.func8, Tryf.ntmps8
  go_wp2
  go_ret
  exact ⟨rfl, rfl⟩

theorem bond_any (F : Interp) (i : Int) (w : World) (hw : (Lit.int .i64 i).wf = true) (hF : F.told.answers w.tape) :
    Calls Tryf.prog 5 #[.int .i64 i] w fun e w' => e = .returned (.string (code i)) ∧ Below w.heap.size w w' := by
  have HC := bond_raw F.told i w hF
  rw [t_code F i hw] at HC
  go_enter Tryf.func5, Tryf.ntmps5
  go_wp2_with (go_at_call 8; refine HC.mono ?_; rintro e w' ⟨rfl, rfl⟩)
  go_ret
  exact ⟨rfl, ((Below.refl _ _).alloc (Nat.le_refl _) _).drew⟩

end Go.Proofs.Qxb6605807aFmt.Bc
