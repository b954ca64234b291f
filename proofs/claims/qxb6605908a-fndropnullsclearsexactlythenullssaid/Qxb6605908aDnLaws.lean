/-
  TWO LAWS: a whole turn loaded, a whole turn stored, in one step.
-/
import Derived.Test.Qxb6605908aDnBlk
import Derived.Laws.Rows
import Derived.Laws.Tables
import Derived.Laws.CopyOwn
namespace Go.Proofs.Qxb6605908a.Dn
open Go.RowKit

theorem size36 : (Try.prog.info? 36).map (·.size) = some 16 := by kernel_rfl

theorem run_load36 {w : World} {b : Nat} {xs : Array Value} {t : TypeId} (h : w.heap[b]? = some (.cells xs t (0, 0))) (hx : xs.size = 16) :
    (Instr.loadAt 36 (.pointer (some ⟨b, 0, none⟩))).run Try.prog w = .ok (.agg xs) w := by
  have := run_loadVar_row (P := Try.prog) w b t 36 xs (0, 0) _ h Try.underlying36 rfl (by rw [hx]; exact size36)
  simp [Instr.loadAt, Instr.sureAddr, this]

theorem wpList_load36 (w : World) {ops : Array Oper} {rest : List Oper} {o : Oper} {a : Act} {Q : Exit → Act → World → Prop}
    (hg : o.guard = none) (x : Operand) (hop : o.op = Op.load 36 x) (b : Nat) (t : TypeId) (xs : Array Value) (hx : a.eval x = .pointer (some ⟨b, 0, none⟩)) (h : w.heap[b]? = some (.cells xs t (0, 0))) (hs : xs.size = 16)
    (hK : wpList Try.prog ops Q rest (a.put o.dst (.agg xs)) w) : wpList Try.prog ops Q (o :: rest) a w := by
  refine wpList_plain hg fun K hK' => ?_
  have hrun := run_load36 h hs
  unfold Oper.wp
  simp [execOp, hop, hx, hrun, Result.andThen]
  exact hK' _ _ hK

theorem wpList_store36 (w : World) {ops : Array Oper} {rest : List Oper} {o : Oper} {a : Act} {Q : Exit → Act → World → Prop}
    (hg : o.guard = none) (x y : Operand) (hop : o.op = Op.store 36 x y) (b : Nat) (t : TypeId) (old xs : Array Value) (hx : a.eval x = .pointer (some ⟨b, 0, none⟩)) (hy : a.eval y = .agg xs) (h : w.heap[b]? = some (.cells old t (0, 0))) (ho : old.size = 16) (hs : xs.size = 16) (h1 : xs.all (·.oneCell') = true)
    (hK : wpList Try.prog ops Q rest (a.put o.dst undef) (w.setRow b xs)) : wpList Try.prog ops Q (o :: rest) a w :=
  wpList_plain hg fun _ hK' => wp_store_row 36 x y hop b xs hx hy t old h (by rw [hs]; exact size36) (by rw [hs]; exact ho) h1 (hK' _ _ hK)

theorem one16 (d : Tin) : d.cells.all (·.oneCell') = true := by
  simp [Tin.cells, Value.oneCell']
theorem size16 (d : Tin) : d.cells.size = 16 := rfl

theorem row_at {w : World} {b : Nat} {old xs : Array Value} {t : TypeId} (h : w.heap[b]? = some (.cells old t (0, 0))) : (w.setRow b xs).heap[b]? = some (.cells xs t (0, 0)) := by
  simp [World.setRow, Array.getElem?_modify, h]
theorem row_ne {w : World} {b c : Nat} {xs : Array Value} (hne : b ≠ c) : (w.setRow b xs).heap[c]? = w.heap[c]? := by
  simp [World.setRow, Array.getElem?_modify, hne]
theorem row_kept {X b : Nat} {w : World} {xs : Array Value} (hb : b ≤ X) : Kept X w (w.setRow b xs) := ⟨by simp [World.setRow], fun j h1 _ => row_ne (by omega)⟩

end Go.Proofs.Qxb6605908a.Dn
