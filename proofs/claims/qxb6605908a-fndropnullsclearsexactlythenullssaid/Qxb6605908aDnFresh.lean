/-
  What a clone leads to is new.
-/
import Derived.Test.Qxb6605908aDnSame
namespace Go.Proofs.Qxb6605908a.Dn
open Go.RowKit

/-- All that the turn leads to lies from block C on. -/
structure Fresh (C : Nat) (d : Tin) (m : Met) : Prop where
  f8 : ∀ y, d.p8 = some y → C ≤ y.block
  f9 : ∀ y, d.p9 = some y → C ≤ y.block
  f10 : ∀ y, d.p10 = some y → C ≤ y.block
  f11 : ∀ y, d.p11 = some y → C ≤ y.block
  f12 : ∀ y, d.a12 = some y → C ≤ y.block
  f13 : ∀ y, d.a13 = some y → C ≤ y.block
  f14 : ∀ y, d.a14 = some y → C ≤ y.block
  f15 : ∀ y, d.p15 = some y → C ≤ y.block ∧ (∀ z, m.p2 = some z → C ≤ z.block) ∧ (∀ z, m.a3 = some z → C ≤ z.block)

theorem Good.keep {X C : Nat} {w w' : World} {d : Tin} {m : Met} {x : Cont} (h : Good w d m x) (hf : Fresh C d m) (hC : X < C) (K : Kept X w w') : Good w' d m x := by
  refine ⟨h.g8.keep (fun y e => Nat.lt_of_lt_of_le hC (hf.f8 y e)) K, h.g9.keep (fun y e => Nat.lt_of_lt_of_le hC (hf.f9 y e)) K, h.g10.keep (fun y e => Nat.lt_of_lt_of_le hC (hf.f10 y e)) K, h.g11.keep (fun y e => Nat.lt_of_lt_of_le hC (hf.f11 y e)) K, h.g12.keep (fun y e => Nat.lt_of_lt_of_le hC (hf.f12 y e)) K, h.g13.keep (fun y e => Nat.lt_of_lt_of_le hC (hf.f13 y e)) K, h.g14.keep (fun y e => Nat.lt_of_lt_of_le hC (hf.f14 y e)) K, ?_⟩
  rcases h.g15 with h0 | ⟨b, off, h15, hm, hi, hr⟩
  · exact .inl h0
  obtain ⟨k1, k2, k3⟩ := hf.f15 _ h15
  have kb : X < b := Nat.lt_of_lt_of_le hC k1
  have hb := K.blk b kb (lt_of_cell hm.c0)
  refine .inr ⟨b, off, h15, ⟨(World.cell?_of_block (a := ⟨b, off, none⟩) hb).trans hm.c0, (World.cell?_of_block (a := ⟨b, off + 1, none⟩) hb).trans hm.c1, (World.cell?_of_block (a := ⟨b, off + 2, none⟩) hb).trans hm.c2, (World.cell?_of_block (a := ⟨b, off + 3, none⟩) hb).trans hm.c3⟩, hi.keep (fun y e => Nat.lt_of_lt_of_le hC (k2 y e)) K, hr.keep (fun y e => Nat.lt_of_lt_of_le hC (k3 y e)) K⟩

theorem Kept.new {X q : Nat} {a b : World} (h : Kept X a b) (hq : a.heap.size ≤ q) (i : Nat) (v : Value) : Kept X a (b.setCell ⟨q, i, none⟩ v) := ⟨by simpa using h.size, fun j h1 h2 => (blk_set_ne (by omega) i v).trans (h.blk j h1 h2)⟩
theorem Kept.low {X c : Nat} {a b : World} (h : Kept X a b) (hc : c ≤ X) (i : Nat) (v : Value) : Kept X a (b.setCell ⟨c, i, none⟩ v) := ⟨by simpa using h.size, fun j h1 h2 => (blk_set_ne (by omega) i v).trans (h.blk j h1 h2)⟩
theorem BRow.setNe {w : World} {a : Option Addr} {l : Nat} {f : Nat → UInt8} {q : Nat} (h : BRow w a l f) (hne : l = 0 ∨ ∃ b off, a = some ⟨b, off, none⟩ ∧ b ≠ q) (i : Nat) (v : Value) : BRow (w.setCell ⟨q, i, none⟩ v) a l f := by
  refine ⟨h.1, ?_⟩
  rcases h.2 with h0 | ⟨b, off, ha, hlt, hc⟩
  · exact .inl h0
  rcases hne with h0 | ⟨b', off', ha', hb'⟩
  · exact .inl h0
  rw [ha] at ha'
  cases ha'
  exact .inr ⟨b, off, ha, by simpa using hlt, fun j hj => (World.cell?_of_block (a := ⟨b, off + j, none⟩) (blk_set_ne (Ne.symm hb') _ _)).trans (hc j hj)⟩

end Go.Proofs.Qxb6605908a.Dn
