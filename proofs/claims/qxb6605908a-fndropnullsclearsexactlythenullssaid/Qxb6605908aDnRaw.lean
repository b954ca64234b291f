/-
  (*Turn).rawFields (22).
-/
import Derived.Test.Qxb6605908aDnBlk
import Derived.BigRegion
namespace Go.Proofs.Qxb6605908a.Dn
open Go.RowKit

def nA : ByteArray := ⟨#[116, 111, 111, 108, 95, 99, 97, 108, 108, 115]⟩
def nB : ByteArray := ⟨#[109, 101, 116, 97, 100, 97, 116, 97]⟩
def nC : ByteArray := ⟨#[115, 111, 117, 114, 99, 101]⟩
def nD : ByteArray := ⟨#[115, 101, 115, 115, 105, 111, 110, 95, 109, 101, 116, 97, 46, 109, 101, 116, 97, 100, 97, 116, 97]⟩
def kA : ByteArray := ⟨#[97, 110, 32, 97, 114, 114, 97, 121]⟩
def kB : ByteArray := ⟨#[97, 110, 32, 111, 98, 106, 101, 99, 116]⟩

/-- The four raw fields. -/
def raws (T : Nat) (p : Option Addr) : Array Value := #[.string nA, .pointer (some ⟨T, 12, none⟩), .int .u8 91, .string kA, .string nB, .pointer (some ⟨T, 13, none⟩), .int .u8 123, .string kB, .string nC, .pointer (some ⟨T, 14, none⟩), .int .u8 123, .string kB, .string nD, .pointer p, .int .u8 123, .string kB]

set_option maxRecDepth 100000 in
set_option maxHeartbeats 8000000 in
theorem raw_none (T : Nat) (w : World) (h15 : w.cell? ⟨T, 15, none⟩ = some (.pointer none)) :
    Calls Try.prog 22 #[.pointer (some ⟨T, 0, none⟩)] w fun e w' => e = .returned (.agg (raws T none)) ∧ Below w.heap.size w w' := by
  have hT := lt_of_cell h15
  go_enter Try.func22, Try.ntmps22
  go_wp2
  go_big_region
  go_wp2
  refine bodyPost_ret (v := .agg (raws T none)) (by simp [results, Try.results22, go_sem, raws, nA, nB, nC, nD, kA, kB]) rfl ⟨rfl, ?_⟩
  exact ((low _ _).alloc (by simp) _).drew

set_option maxRecDepth 100000 in
set_option maxHeartbeats 8000000 in
theorem raw_some (T M : Nat) (w : World) (h15 : w.cell? ⟨T, 15, none⟩ = some (.pointer (some ⟨M, 0, none⟩))) :
    Calls Try.prog 22 #[.pointer (some ⟨T, 0, none⟩)] w fun e w' => e = .returned (.agg (raws T (some ⟨M, 3, none⟩))) ∧ Below w.heap.size w w' := by
  have hT := lt_of_cell h15
  go_enter Try.func22, Try.ntmps22
  go_wp2
  go_big_region
  go_wp2
  refine bodyPost_ret (v := .agg (raws T (some ⟨M, 3, none⟩))) (by simp [results, Try.results22, go_sem, raws, nA, nB, nC, nD, kA, kB]) rfl ⟨rfl, ?_⟩
  exact ((low _ _).alloc (by simp) _).drew

end Go.Proofs.Qxb6605908a.Dn
