/-
  A turn and its clone.
-/
import Derived.Test.Qxb6605908aDnBlk
import Derived.ChangeKeysEq
namespace Go.Proofs.Qxb6605908a.Dn
open Go.RowKit

/-- d', m' hold what d, m hold. -/
structure Same (d : Tin) (m : Met) (d' : Tin) (m' : Met) : Prop where
  e0 : d'.s0 = d.s0
  e1 : d'.s1 = d.s1
  e2 : d'.s2 = d.s2
  e3 : d'.s3 = d.s3
  e4 : d'.n4 = d.n4
  e5 : d'.s5 = d.s5
  e6 : d'.n6 = d.n6
  e7 : d'.s7 = d.s7
  l12 : d'.l12 = d.l12
  l13 : d'.l13 = d.l13
  l14 : d'.l14 = d.l14
  n12 : d'.a12.isNone = d.a12.isNone
  n13 : d'.a13.isNone = d.a13.isNone
  n14 : d'.a14.isNone = d.a14.isNone
  n15 : d'.p15.isNone = d.p15.isNone
  m0 : m'.s0 = m.s0
  m1 : m'.s1 = m.s1
  m3 : m'.l3 = m.l3
  mn : m'.a3.isNone = m.a3.isNone

structure Lens (d : Tin) (m : Met) : Prop where
  k12 : d.l12 ≤ 1048576
  k13 : d.l13 ≤ 1048576
  k14 : d.l14 ≤ 1048576
  k15 : d.p15 = none ∨ m.l3 ≤ 1048576

theorem Small.lens {d : Tin} {m : Met} {x : Cont} (h : Small d m x) : Lens d m := ⟨h.k12, h.k13, h.k14, h.k15.imp id (fun h => h.2.2)⟩
theorem Lens.same {d d' : Tin} {m m' : Met} (h : Lens d m) (s : Same d m d' m') : Lens d' m' :=
  ⟨by rw [s.l12]; exact h.k12, by rw [s.l13]; exact h.k13, by rw [s.l14]; exact h.k14, by
    rcases h.k15 with h | h
    · left
      have := s.n15
      rw [h] at this
      simpa using this
    · right; rw [s.m3]; exact h⟩

/-- What dropping leaves of a raw field. -/
def Drop (w : World) (a : Option Addr) (l : Nat) (f : Nat → UInt8) (y : Option Addr) (k : Nat) : Prop :=
  (isNull l f = true → y = none) ∧ (isNull l f = false → k = l ∧ BRow w y l f ∧ y.isNone = a.isNone)
theorem Drop.below {w w' : World} {C : Nat} {a : Option Addr} {l : Nat} {f : Nat → UInt8} {y : Option Addr} {k : Nat} (h : Drop w a l f y k) (hC : w.heap.size ≤ C) (hb : Below C w w') : Drop w' a l f y k :=
  ⟨h.1, fun e => ⟨(h.2 e).1, (h.2 e).2.1.below hC hb, (h.2 e).2.2⟩⟩

theorem dropped (a : Option Addr) (l c : Nat) (y : Option Addr) (k z : Nat) (f : Nat → UInt8) (w : World) (hl : l ≤ 1048576) (hr : BRow w a l f) (hd : Drop w a l f y k) :
    ∀ wz, Below w.heap.size w wz → Calls Try.prog 21 #[.slice a l c, .slice y k z] wz fun e w' => e = .returned (.bool true) ∧ ∃ n, w' = wz.drewN n :=
  fun wz hz => dropped_any a l c y k z f wz hl (hr.below (Nat.le_refl _) hz) (hd.below (Nat.le_refl _) hz).1 (hd.below (Nat.le_refl _) hz).2

theorem run_same (P : Program) (w : World) (a : Addr) : (sameAddr a a).run P w = .ok true w := by
  simp [sameAddr]
theorem run_equalIn_ptr {P : Program} (w : World) (d : Nat) (t : TypeId) (p : Option Addr) (h : P.underlying t = some (.pointer (P.pointee t))) {i : TypeInfo} (hi : P.info? (P.pointee t) = some i) : (Op.equalIn (d + 1) t (.pointer p) (.pointer p)).run P w = .ok true w := by
  cases p with
  | none => simp [Op.equalIn, run_underlying h]
  | some a =>
    have hs : (sizeOf (P.pointee t)).run P w = .ok (P.cellsOf (P.pointee t)) w := run_sizeOf w hi
    simp [Op.equalIn, run_underlying h, hs, run_same P w a]
theorem run_equal_ptr {P : Program} (w : World) (t : TypeId) (p : Option Addr) (h : P.underlying t = some (.pointer (P.pointee t))) {i : TypeInfo} (hi : P.info? (P.pointee t) = some i) : (Op.equal t (.pointer p) (.pointer p)).run P w = .ok true w := run_equalIn_ptr w 9999 t p h hi
theorem run_eql_ptr {P : Program} (w : World) (t : TypeId) (p : Option Addr) (h : P.underlying t = some (.pointer (P.pointee t))) {i : TypeInfo} (hi : P.info? (P.pointee t) = some i) : (binOp .eql t (.pointer p) (.pointer p)).run P w = .ok (.bool true) w := by
  simp only [binOp]
  simp [run_equal_ptr w t p h hi]
theorem run_neq_ptr {P : Program} (w : World) (t : TypeId) (p : Option Addr) (h : P.underlying t = some (.pointer (P.pointee t))) {i : TypeInfo} (hi : P.info? (P.pointee t) = some i) : (binOp .neq t (.pointer p) (.pointer p)).run P w = .ok (.bool false) w := by
  simp only [binOp]
  simp [run_equal_ptr w t p h hi]

theorem pte30 : Try.prog.pointee 30 = 9 := by simp [Program.pointee, Try.underlying30]
theorem pte31 : Try.prog.pointee 31 = 2 := by simp [Program.pointee, Try.underlying31]
theorem pte32 : Try.prog.pointee 32 = 63 := by simp [Program.pointee, Try.underlying32]
theorem pte46 : Try.prog.pointee 46 = 66 := by simp [Program.pointee, Try.underlying46]
theorem has9 : (Try.prog.info? 9).isSome = true := by kernel_rfl
theorem has2 : (Try.prog.info? 2).isSome = true := by kernel_rfl
theorem has63 : (Try.prog.info? 63).isSome = true := by kernel_rfl
theorem has66 : (Try.prog.info? 66).isSome = true := by kernel_rfl
theorem eql30 (p : Option Addr) (w : World) : (binOp .eql 30 (.pointer p) (.pointer p)).run Try.prog w = .ok (.bool true) w := by
  obtain ⟨i, hi⟩ := Option.isSome_iff_exists.1 has9
  exact run_eql_ptr w 30 p (by rw [pte30]; exact Try.underlying30) (by rw [pte30]; exact hi)
theorem eql31 (p : Option Addr) (w : World) : (binOp .eql 31 (.pointer p) (.pointer p)).run Try.prog w = .ok (.bool true) w := by
  obtain ⟨i, hi⟩ := Option.isSome_iff_exists.1 has2
  exact run_eql_ptr w 31 p (by rw [pte31]; exact Try.underlying31) (by rw [pte31]; exact hi)
theorem eql32 (p : Option Addr) (w : World) : (binOp .eql 32 (.pointer p) (.pointer p)).run Try.prog w = .ok (.bool true) w := by
  obtain ⟨i, hi⟩ := Option.isSome_iff_exists.1 has63
  exact run_eql_ptr w 32 p (by rw [pte32]; exact Try.underlying32) (by rw [pte32]; exact hi)
theorem neq46 (p : Option Addr) (w : World) : (binOp .neq 46 (.pointer p) (.pointer p)).run Try.prog w = .ok (.bool false) w := by
  obtain ⟨i, hi⟩ := Option.isSome_iff_exists.1 has66
  exact run_neq_ptr w 46 p (by rw [pte46]; exact Try.underlying46) (by rw [pte46]; exact hi)

end Go.Proofs.Qxb6605908a.Dn
