/-
  BLOCKS of the call's own, cell by cell.
-/
import Derived.Test.Qxb6605908aDnTin
namespace Go.Proofs.Qxb6605908a.Dn
open Go.RowKit

theorem blk_cell {w : World} {b : Nat} {xs : Array Value} {t : TypeId} (h : w.heap[b]? = some (.cells xs t (0, 0))) (i : Nat) : w.cell? ⟨b, i, none⟩ = xs[i]? := by
  simp [World.cell?, h]
theorem blk_free {w : World} {b : Nat} {xs : Array Value} {t : TypeId} (h : w.heap[b]? = some (.cells xs t (0, 0))) (i : Nat) : w.frozen? ⟨b, i, none⟩ = false := by
  simp [World.frozen?, h]
theorem blk_set {w : World} {b : Nat} {xs : Array Value} {t : TypeId} (h : w.heap[b]? = some (.cells xs t (0, 0))) (i : Nat) (v : Value) : (w.setCell ⟨b, i, none⟩ v).heap[b]? = some (.cells (xs.setIfInBounds i v) t (0, 0)) := by
  simp [World.setCell, Array.getElem?_modify, h]
theorem blk_set_ne {w : World} {b c : Nat} (hne : b ≠ c) (i : Nat) (v : Value) : (w.setCell ⟨b, i, none⟩ v).heap[c]? = w.heap[c]? := by
  simp [World.setCell, Array.getElem?_modify, hne]
theorem blk_lt {w : World} {b : Nat} {o : Obj} (h : w.heap[b]? = some o) : b < w.heap.size := by
  rcases Nat.lt_or_ge b w.heap.size with h' | h'
  · exact h'
  · rw [Array.getElem?_eq_none h'] at h; cases h
theorem blk_alloc_ne {w : World} {c : Nat} (o : Obj) (hc : c ≠ w.heap.size) : (w.alloc o).heap[c]? = w.heap[c]? := by
  show (w.heap.push o)[c]? = _
  rw [Array.getElem?_push]
  rw [if_neg hc]
theorem blk_alloc {w : World} {b : Nat} {o o' : Obj} (h : w.heap[b]? = some o') : (w.alloc o).heap[b]? = some o' := by
  rw [blk_alloc_ne o (by have := blk_lt h; omega)]; exact h
theorem blk_new (w : World) (o : Obj) : (w.alloc o).heap[w.heap.size]? = some o := by
  show (w.heap.push o)[w.heap.size]? = _
  simp

/-- From X on (X itself aside) w' is as w was. -/
structure Kept (X : Nat) (w w' : World) : Prop where
  size : w.heap.size ≤ w'.heap.size
  blk : ∀ b, X < b → b < w.heap.size → w'.heap[b]? = w.heap[b]?

theorem Kept.refl (X : Nat) (w : World) : Kept X w w := ⟨Nat.le_refl _, fun _ _ _ => rfl⟩
theorem Kept.trans {X : Nat} {a b c : World} (h : Kept X a b) (k : Kept X b c) : Kept X a c := ⟨Nat.le_trans h.size k.size, fun i h1 h2 => (k.blk i h1 (Nat.lt_of_lt_of_le h2 h.size)).trans (h.blk i h1 h2)⟩
theorem Kept.alloc {X : Nat} {a b : World} (h : Kept X a b) (o : Obj) : Kept X a (b.alloc o) := ⟨by have := h.size; simp; omega, fun i h1 h2 => (blk_alloc_ne o (by have := h.size; omega)).trans (h.blk i h1 h2)⟩
theorem Kept.set {X : Nat} {a b : World} (h : Kept X a b) (i : Nat) (v : Value) : Kept X a (b.setCell ⟨X, i, none⟩ v) := ⟨by simpa using h.size, fun j h1 h2 => (blk_set_ne (by omega) i v).trans (h.blk j h1 h2)⟩
theorem Kept.below {X : Nat} {a b c : World} (h : Kept X a b) (k : Below b.heap.size b c) : Kept X a c := h.trans ⟨k.size, fun j _ h2 => k.block j h2⟩
theorem Kept.drew {X : Nat} {a b : World} (h : Kept X a b) : Kept X a b.drew := ⟨h.size, h.blk⟩

/-- An address beyond X. -/
def Past (X : Nat) (p : Option Addr) : Prop := ∀ y, p = some y → X < y.block
theorem past_none (X : Nat) : Past X none := fun _ h => by cases h
theorem past_some {X b off : Nat} {s} (h : X < b) : Past X (some ⟨b, off, s⟩) := fun _ e => by cases e; exact h

theorem BRow.keep {X : Nat} {w w' : World} {a : Option Addr} {l : Nat} {f : Nat → UInt8} (h : BRow w a l f) (hp : Past X a) (k : Kept X w w') : BRow w' a l f := by
  refine ⟨h.1, ?_⟩
  rcases h.2 with h0 | ⟨b, off, rfl, hlt, hc⟩
  · exact .inl h0
  exact .inr ⟨b, off, rfl, Nat.lt_of_lt_of_le hlt k.size, fun j hj => (World.cell?_of_block (a := ⟨b, off + j, none⟩) (k.blk b (hp _ rfl) hlt)).trans (hc j hj)⟩
theorem PStr.keep {X : Nat} {w w' : World} {p : Option Addr} {s : ByteArray} (h : PStr w p s) (hp : Past X p) (k : Kept X w w') : PStr w' p s := by
  rcases h with h0 | ⟨b, off, rfl, hc⟩
  · exact .inl h0
  exact .inr ⟨b, off, rfl, (World.cell?_of_block (a := ⟨b, off, none⟩) (k.blk b (hp _ rfl) (lt_of_cell hc))).trans hc⟩
theorem PInt.keep {X : Nat} {w w' : World} {p : Option Addr} (h : PInt w p) (hp : Past X p) (k : Kept X w w') : PInt w' p := by
  rcases h with h0 | ⟨b, off, n, rfl, hc⟩
  · exact .inl h0
  exact .inr ⟨b, off, n, rfl, (World.cell?_of_block (a := ⟨b, off, none⟩) (k.blk b (hp _ rfl) (lt_of_cell hc))).trans hc⟩
theorem PFlt.keep {X : Nat} {w w' : World} {p : Option Addr} (h : PFlt w p) (hp : Past X p) (k : Kept X w w') : PFlt w' p := by
  rcases h with h0 | ⟨b, off, n, rfl, hc⟩
  · exact .inl h0
  exact .inr ⟨b, off, n, rfl, (World.cell?_of_block (a := ⟨b, off, none⟩) (k.blk b (hp _ rfl) (lt_of_cell hc))).trans hc⟩

/-- What came in reads on as long as what lies below is as it was. -/
theorem PStr.below {w w' : World} {C : Nat} {p : Option Addr} {s : ByteArray} (h : PStr w p s) (hC : w.heap.size ≤ C) (hb : Below C w w') : PStr w' p s := by
  rcases h with h0 | ⟨b, off, rfl, hc⟩
  · exact .inl h0
  exact .inr ⟨b, off, rfl, (hb.cell (by have := lt_of_cell hc; show b < C; omega)).trans hc⟩
theorem PInt.below {w w' : World} {C : Nat} {p : Option Addr} (h : PInt w p) (hC : w.heap.size ≤ C) (hb : Below C w w') : PInt w' p := by
  rcases h with h0 | ⟨b, off, n, rfl, hc⟩
  · exact .inl h0
  exact .inr ⟨b, off, n, rfl, (hb.cell (by have := lt_of_cell hc; show b < C; omega)).trans hc⟩
theorem PFlt.below {w w' : World} {C : Nat} {p : Option Addr} (h : PFlt w p) (hC : w.heap.size ≤ C) (hb : Below C w w') : PFlt w' p := by
  rcases h with h0 | ⟨b, off, n, rfl, hc⟩
  · exact .inl h0
  exact .inr ⟨b, off, n, rfl, (hb.cell (by have := lt_of_cell hc; show b < C; omega)).trans hc⟩
theorem MetAt.below {w w' : World} {C b off : Nat} {m : Met} (h : MetAt w b off m) (hC : w.heap.size ≤ C) (hb : Below C w w') : MetAt w' b off m := by
  have hlt := lt_of_cell h.c0
  exact ⟨(hb.cell (by show b < C; omega)).trans h.c0, (hb.cell (by show b < C; omega)).trans h.c1, (hb.cell (by show b < C; omega)).trans h.c2, (hb.cell (by show b < C; omega)).trans h.c3⟩
theorem PMet.below {w w' : World} {C : Nat} {p : Option Addr} {m : Met} {f : Nat → UInt8} (h : PMet w p m f) (hC : w.heap.size ≤ C) (hb : Below C w w') : PMet w' p m f := by
  rcases h with h0 | ⟨b, off, rfl, h1, h2, h3⟩
  · exact .inl h0
  exact .inr ⟨b, off, rfl, h1.below hC hb, h2.below hC hb, h3.below hC hb⟩
theorem Good.below {w w' : World} {C : Nat} {d : Tin} {m : Met} {x : Cont} (h : Good w d m x) (hC : w.heap.size ≤ C) (hb : Below C w w') : Good w' d m x :=
  ⟨h.g8.below hC hb, h.g9.below hC hb, h.g10.below hC hb, h.g11.below hC hb, h.g12.below hC hb, h.g13.below hC hb, h.g14.below hC hb, h.g15.below hC hb⟩

end Go.Proofs.Qxb6605908a.Dn
