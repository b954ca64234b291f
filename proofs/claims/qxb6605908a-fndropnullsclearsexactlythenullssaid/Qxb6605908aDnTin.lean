/-
  THE TURN AS IT COMES IN, as the walks see it.
-/
import Derived.Test.Qxb6605908aDnSmall
namespace Go.Proofs.Qxb6605908a.Dn
open Go.RowKit

/-- The cells of a TurnIn. -/
structure Tin where
  s0 : ByteArray
  s1 : ByteArray
  s2 : ByteArray
  s3 : ByteArray
  n4 : Int
  s5 : ByteArray
  n6 : Int
  s7 : ByteArray
  p8 : Option Addr
  p9 : Option Addr
  p10 : Option Addr
  p11 : Option Addr
  a12 : Option Addr
  l12 : Nat
  c12 : Nat
  a13 : Option Addr
  l13 : Nat
  c13 : Nat
  a14 : Option Addr
  l14 : Nat
  c14 : Nat
  p15 : Option Addr

def Tin.cells (d : Tin) : Array Value := #[.string d.s0, .string d.s1, .string d.s2, .string d.s3, .int .i64 d.n4, .string d.s5, .int .i64 d.n6, .string d.s7, .pointer d.p8, .pointer d.p9, .pointer d.p10, .pointer d.p11, .slice d.a12 d.l12 d.c12, .slice d.a13 d.l13 d.c13, .slice d.a14 d.l14 d.c14, .pointer d.p15]

/-- The cells of a MetaIn. -/
structure Met where
  s0 : ByteArray
  s1 : ByteArray
  p2 : Option Addr
  a3 : Option Addr
  l3 : Nat
  c3 : Nat

structure MetAt (w : World) (b off : Nat) (m : Met) : Prop where
  c0 : w.cell? ⟨b, off, none⟩ = some (.string m.s0)
  c1 : w.cell? ⟨b, off + 1, none⟩ = some (.string m.s1)
  c2 : w.cell? ⟨b, off + 2, none⟩ = some (.pointer m.p2)
  c3 : w.cell? ⟨b, off + 3, none⟩ = some (.slice m.a3 m.l3 m.c3)

def PStr (w : World) (p : Option Addr) (s : ByteArray) : Prop := p = none ∨ ∃ b off, p = some ⟨b, off, none⟩ ∧ w.cell? ⟨b, off, none⟩ = some (.string s)
def PInt (w : World) (p : Option Addr) : Prop := p = none ∨ ∃ b off n, p = some ⟨b, off, none⟩ ∧ w.cell? ⟨b, off, none⟩ = some (.int .i64 n)
def PFlt (w : World) (p : Option Addr) : Prop := p = none ∨ ∃ b off n, p = some ⟨b, off, none⟩ ∧ w.cell? ⟨b, off, none⟩ = some (.float .f64 n)
def PMet (w : World) (p : Option Addr) (m : Met) (fm : Nat → UInt8) : Prop := p = none ∨ ∃ b off, p = some ⟨b, off, none⟩ ∧ MetAt w b off m ∧ PInt w m.p2 ∧ BRow w m.a3 m.l3 fm

/-- The contents of the byte slices. -/
structure Cont where
  t8 : ByteArray
  f12 : Nat → UInt8
  f13 : Nat → UInt8
  f14 : Nat → UInt8
  fm : Nat → UInt8

structure Good (w : World) (d : Tin) (m : Met) (x : Cont) : Prop where
  g8 : PStr w d.p8 x.t8
  g9 : PInt w d.p9
  g10 : PInt w d.p10
  g11 : PFlt w d.p11
  g12 : BRow w d.a12 d.l12 x.f12
  g13 : BRow w d.a13 d.l13 x.f13
  g14 : BRow w d.a14 d.l14 x.f14
  g15 : PMet w d.p15 m x.fm

/-- The lengths. -/
structure Small (d : Tin) (m : Met) (x : Cont) : Prop where
  k0 : d.s0.size ≤ 1048576
  k1 : d.s1.size ≤ 1048576
  k2 : d.s2.size ≤ 1048576
  k3 : d.s3.size ≤ 1048576
  k5 : d.s5.size ≤ 1048576
  k7 : d.s7.size ≤ 1048576
  k8 : d.p8 = none ∨ x.t8.size ≤ 1048576
  k12 : d.l12 ≤ 1048576
  k13 : d.l13 ≤ 1048576
  k14 : d.l14 ≤ 1048576
  k15 : d.p15 = none ∨ (m.s0.size ≤ 1048576 ∧ m.s1.size ≤ 1048576 ∧ m.l3 ≤ 1048576)

def BoolSo (p : Prop) (e : Ending) : Prop := ∃ r, e = .returned (.bool r) ∧ (r = true → p)
theorem boolSo_no {p : Prop} : BoolSo p (.returned (.bool false)) := ⟨_, rfl, fun h => by cases h⟩
theorem boolSo_yes {p : Prop} (h : p) : BoolSo p (.returned (.bool true)) := ⟨_, rfl, fun _ => h⟩
def AnyInt (e : Ending) : Prop := ∃ z, e = .returned (.int .i64 z)
theorem anyInt (z : Int) : AnyInt (.returned (.int .i64 z)) := ⟨z, rfl⟩

theorem low (w : World) (o : Obj) : Below w.heap.size w (w.alloc o) := (Below.refl _ _).alloc (Nat.le_refl _) _

theorem lt_of_cell {w : World} {b off : Nat} {v : Value} (h : w.cell? ⟨b, off, none⟩ = some v) : b < w.heap.size := World.block_lt_of_cell? w _ h

theorem belowN {B : Nat} {w w' : World} (h : Below B w w') (n : Nat) : Below B w (w'.drewN n) := ⟨h.os, h.tape, h.output, h.size, h.block⟩

end Go.Proofs.Qxb6605908a.Dn
