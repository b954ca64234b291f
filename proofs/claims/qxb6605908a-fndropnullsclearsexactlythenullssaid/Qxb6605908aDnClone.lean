/-
  zzCloneTurnIn (14).
-/
import Derived.Test.Qxb6605908aDnFresh
import Derived.Test.Qxb6605908aDnLaws
import Derived.Deep.DeepCutAuto
import Derived.Deep.RegionHeld3
import Derived.BigRegion
namespace Go.Proofs.Qxb6605908a.Dn
open Go.RowKit

def zeroT : Array Value := #[.string ⟨#[]⟩, .string ⟨#[]⟩, .string ⟨#[]⟩, .string ⟨#[]⟩, .int .i64 0, .string ⟨#[]⟩, .int .i64 0, .string ⟨#[]⟩, .pointer none, .pointer none, .pointer none, .pointer none, .slice none 0 0, .slice none 0 0, .slice none 0 0, .pointer none]

/-- The three blocks of the clone: what came in, the result's place, the copy. -/
structure St (w wc : World) (src out : Array Value) : Prop where
  bel : Below w.heap.size w wc
  b0 : wc.heap[w.heap.size]? = some (.cells src 36 (0, 0))
  b1 : wc.heap[w.heap.size + 1]? = some (.cells zeroT 36 (0, 0))
  b2 : wc.heap[w.heap.size + 1 + 1]? = some (.cells out 36 (0, 0))

theorem St.begin (w : World) (src : Array Value) : St w (((w.alloc (.cells src 36)).alloc (.cells zeroT 36)).alloc (.cells src 36)) src src := by
  refine ⟨((((Below.refl _ _).alloc (Nat.le_refl _) _).alloc (by simp) _).alloc (by simp; omega) _), ?_, ?_, ?_⟩
  · exact blk_alloc (blk_alloc (blk_new _ _))
  · refine blk_alloc ?_
    have := blk_new (w.alloc (.cells src 36)) (.cells zeroT 36)
    simpa using this
  · have := blk_new ((w.alloc (.cells src 36)).alloc (.cells zeroT 36)) (.cells src 36)
    simpa using this
theorem St.set {w wc : World} {src out : Array Value} (h : St w wc src out) (k : Nat) (u : Value) : St w (wc.setCell ⟨w.heap.size + 1 + 1, k, none⟩ u) src (out.setIfInBounds k u) :=
  ⟨h.bel.setCell (by show w.heap.size ≤ w.heap.size + 1 + 1; omega) _, (blk_set_ne (by omega) _ _).trans h.b0, (blk_set_ne (by omega) _ _).trans h.b1, blk_set h.b2 _ _⟩
theorem St.alloc {w wc : World} {src out : Array Value} (h : St w wc src out) (o : Obj) : St w (wc.alloc o) src out :=
  ⟨h.bel.alloc h.bel.size _, blk_alloc h.b0, blk_alloc h.b1, blk_alloc h.b2⟩
theorem St.below {w wc wd : World} {src out : Array Value} (h : St w wc src out) (k : Below wc.heap.size wc wd) : St w wd src out :=
  ⟨h.bel.trans (k.mono h.bel.size), (k.block _ (blk_lt h.b0)).trans h.b0, (k.block _ (blk_lt h.b1)).trans h.b1, (k.block _ (blk_lt h.b2)).trans h.b2⟩

/-- The pointer to the copy of the meta. -/
def QMet (X : Nat) (w : World) (p q : Option Addr) (m m' : Met) (fm : Nat → UInt8) : Prop :=
  (p = none ∧ q = none ∧ m' = m) ∨ ∃ b, X < b ∧ p.isNone = false ∧ q = some ⟨b, 0, none⟩ ∧ w.heap[b]? = some (.cells #[.string m.s0, .string m.s1, .pointer m'.p2, .slice m'.a3 m.l3 m'.c3] 62 (0, 0)) ∧
    m'.s0 = m.s0 ∧ m'.s1 = m.s1 ∧ m'.l3 = m.l3 ∧ m'.a3.isNone = m.a3.isNone ∧ Past X m'.p2 ∧ PInt w m'.p2 ∧ Past X m'.a3 ∧ BRow w m'.a3 m.l3 fm

theorem QMet.keep {X : Nat} {w w' : World} {p q : Option Addr} {m m' : Met} {fm : Nat → UInt8} (h : QMet X w p q m m' fm) (K : Kept X w w') : QMet X w' p q m m' fm := by
  rcases h with h | ⟨b, h1, h2, h3, h4, h5, h6, h7, h8, h9, h10, h11, h12⟩
  · exact .inl h
  · exact .inr ⟨b, h1, h2, h3, (K.blk b h1 (blk_lt h4)).trans h4, h5, h6, h7, h8, h9, h10.keep h9 K, h11, h12.keep h11 K⟩

theorem QMet.met {X : Nat} {w : World} {p q : Option Addr} {m m' : Met} {fm : Nat → UInt8} (h : QMet X w p q m m' fm) : PMet w q m' fm := by
  rcases h with h | ⟨b, h1, h2, h3, h4, h5, h6, h7, h8, h9, h10, h11, h12⟩
  · exact .inl h.2.1
  · refine .inr ⟨b, 0, h3, ⟨?_, ?_, ?_, ?_⟩, h10, by rw [h7]; exact h12⟩
    · rw [h5]; exact (blk_cell h4 0).trans rfl
    · rw [h6]; exact (blk_cell h4 1).trans rfl
    · exact (blk_cell h4 2).trans rfl
    · rw [h7]; exact (blk_cell h4 3).trans rfl

def fill (w : World) (b : Nat) (v0 v1 v2 v3 v4 v5 v6 v7 v8 v9 v10 v11 v12 v13 v14 v15 : Value) : World := ((((((((((((((((w.setCell ⟨b, 0, none⟩ v0).setCell ⟨b, 1, none⟩ v1).setCell ⟨b, 2, none⟩ v2).setCell ⟨b, 3, none⟩ v3).setCell ⟨b, 4, none⟩ v4).setCell ⟨b, 5, none⟩ v5).setCell ⟨b, 6, none⟩ v6).setCell ⟨b, 7, none⟩ v7).setCell ⟨b, 8, none⟩ v8).setCell ⟨b, 9, none⟩ v9).setCell ⟨b, 10, none⟩ v10).setCell ⟨b, 11, none⟩ v11).setCell ⟨b, 12, none⟩ v12).setCell ⟨b, 13, none⟩ v13).setCell ⟨b, 14, none⟩ v14).setCell ⟨b, 15, none⟩ v15)
theorem fill_at {w : World} {b : Nat} {t : TypeId} {v0 v1 v2 v3 v4 v5 v6 v7 v8 v9 v10 v11 v12 v13 v14 v15 : Value} (h : w.heap[b]? = some (.cells zeroT t (0, 0))) : (fill w b v0 v1 v2 v3 v4 v5 v6 v7 v8 v9 v10 v11 v12 v13 v14 v15).heap[b]? = some (.cells #[v0, v1, v2, v3, v4, v5, v6, v7, v8, v9, v10, v11, v12, v13, v14, v15] t (0, 0)) :=
  (blk_set (blk_set (blk_set (blk_set (blk_set (blk_set (blk_set (blk_set (blk_set (blk_set (blk_set (blk_set (blk_set (blk_set (blk_set (blk_set h 0 v0) 1 v1) 2 v2) 3 v3) 4 v4) 5 v5) 6 v6) 7 v7) 8 v8) 9 v9) 10 v10) 11 v11) 12 v12) 13 v13) 14 v14) 15 v15).trans (congrArg (fun xs => some (Obj.cells xs t (0, 0))) (by simp [zeroT]))
theorem fill_kept {X : Nat} {w : World} {b : Nat} {v0 v1 v2 v3 v4 v5 v6 v7 v8 v9 v10 v11 v12 v13 v14 v15 : Value} (hb : b ≤ X) : Kept X w (fill w b v0 v1 v2 v3 v4 v5 v6 v7 v8 v9 v10 v11 v12 v13 v14 v15) := (((((((((((((((((Kept.refl _ _).low hb 0 _).low hb 1 _).low hb 2 _).low hb 3 _).low hb 4 _).low hb 5 _).low hb 6 _).low hb 7 _).low hb 8 _).low hb 9 _).low hb 10 _).low hb 11 _).low hb 12 _).low hb 13 _).low hb 14 _).low hb 15 _)
theorem fill_below {B : Nat} {w0 w : World} {b : Nat} {v0 v1 v2 v3 v4 v5 v6 v7 v8 v9 v10 v11 v12 v13 v14 v15 : Value} (h : Below B w0 w) (hb : B ≤ b) : Below B w0 (fill w b v0 v1 v2 v3 v4 v5 v6 v7 v8 v9 v10 v11 v12 v13 v14 v15) := ((((((((((((((((h.setCell (by exact hb) _).setCell (by exact hb) _).setCell (by exact hb) _).setCell (by exact hb) _).setCell (by exact hb) _).setCell (by exact hb) _).setCell (by exact hb) _).setCell (by exact hb) _).setCell (by exact hb) _).setCell (by exact hb) _).setCell (by exact hb) _).setCell (by exact hb) _).setCell (by exact hb) _).setCell (by exact hb) _).setCell (by exact hb) _).setCell (by exact hb) _)

theorem St.setq {w wc : World} {src out : Array Value} (h : St w wc src out) {q : Nat} (hq : w.heap.size + 1 + 1 < q) (i : Nat) (v : Value) : St w (wc.setCell ⟨q, i, none⟩ v) src out :=
  ⟨h.bel.setCell (by show w.heap.size ≤ q; omega) _, (blk_set_ne (by omega) _ _).trans h.b0, (blk_set_ne (by omega) _ _).trans h.b1, (blk_set_ne (by omega) _ _).trans h.b2⟩

theorem QMet.same {X : Nat} {w : World} {p q : Option Addr} {m m' : Met} {fm : Nat → UInt8} (h : QMet X w p q m m' fm) : q.isNone = p.isNone ∧ m'.s0 = m.s0 ∧ m'.s1 = m.s1 ∧ m'.l3 = m.l3 ∧ m'.a3.isNone = m.a3.isNone := by
  rcases h with ⟨h1, h2, rfl⟩ | ⟨b, h1, h2, h3, h4, h5, h6, h7, h8, h9, h10, h11, h12⟩
  · rw [h1, h2]; exact ⟨rfl, rfl, rfl, rfl, rfl⟩
  · rw [h3]; exact ⟨h2.symm, h5, h6, h7, h8⟩
theorem QMet.fresh {X C : Nat} {w : World} {p q : Option Addr} {m m' : Met} {fm : Nat → UInt8} (h : QMet X w p q m m' fm) (hC : C ≤ X) : ∀ y, q = some y → C ≤ y.block ∧ (∀ z, m'.p2 = some z → C ≤ z.block) ∧ (∀ z, m'.a3 = some z → C ≤ z.block) := by
  intro y hy
  rcases h with ⟨h1, h2, rfl⟩ | ⟨b, h1, h2, h3, h4, h5, h6, h7, h8, h9, h10, h11, h12⟩
  · rw [h2] at hy; cases hy
  · rw [h3] at hy
    cases hy
    exact ⟨by show C ≤ b; omega, fun z e => by have := h9 z e; omega, fun z e => by have := h11 z e; omega⟩

theorem reg_one {X : Nat} {we w1 : World} {r : Option Addr} {l c' : Nat} {fm : Nat → UInt8} {s0 s1 : ByteArray} {z : Bool} (hX : X < we.heap.size) (hr : BRow w1 r l fm) (hn : r.isNone = z) (hpa : ∀ y, r = some y → we.heap.size ≤ y.block) (hw1 : Below we.heap.size we w1) :
    ∃ q r_1 c'_1, Value.pointer (some ⟨w1.heap.size, 0, none⟩) = Value.pointer (some ⟨q, 0, none⟩) ∧ X < q ∧ (w1.alloc (.cells #[.string s0, .string s1, .pointer none, .slice r l c'] 62)).heap[q]? = some (.cells #[.string s0, .string s1, .pointer none, .slice r_1 l c'_1] 62 (0, 0)) ∧ Below we.heap.size we (w1.alloc (.cells #[.string s0, .string s1, .pointer none, .slice r l c'] 62)) ∧ we.heap.size ≤ q ∧ Past X r_1 ∧ (l = 0 ∨ ∃ b off, r_1 = some ⟨b, off, none⟩ ∧ b ≠ q) ∧ BRow (w1.alloc (.cells #[.string s0, .string s1, .pointer none, .slice r l c'] 62)) r_1 l fm ∧ r_1.isNone = z := by
  refine ⟨w1.heap.size, r, c', rfl, Nat.lt_of_lt_of_le hX hw1.size, blk_new _ _, hw1.alloc hw1.size _, hw1.size, fun y h => Nat.lt_of_lt_of_le hX (hpa y h), ?_, hr.below (Nat.le_refl _) (low _ _), hn⟩
  rcases hr.2 with h0 | ⟨b, off, ha, hlt, _⟩
  · exact .inl h0
  · exact .inr ⟨b, off, ha, by omega⟩
theorem reg_two {X : Nat} {we w1 : World} {r : Option Addr} {l c' : Nat} {fm : Nat → UInt8} {s0 s1 : ByteArray} {z : Bool} {o : Obj} {u0 u1 u2 u3 : Value} (hX : X < we.heap.size) (hr : BRow w1 r l fm) (hn : r.isNone = z) (hpa : ∀ y, r = some y → (we.alloc o).drew.heap.size ≤ y.block) (hw1 : Below we.heap.size we w1) (hz : w1.heap[we.heap.size]? = some (.cells #[u0, u1, u2, u3] 62 (0, 0))) :
    ∃ q r_1 c'_1, Value.pointer (some ⟨we.heap.size, 0, none⟩) = Value.pointer (some ⟨q, 0, none⟩) ∧ X < q ∧ ((((w1.setCell ⟨we.heap.size, 0, none⟩ (.string s0)).setCell ⟨we.heap.size, 1, none⟩ (.string s1)).setCell ⟨we.heap.size, 2, none⟩ (.pointer none)).setCell ⟨we.heap.size, 3, none⟩ (.slice r l c')).heap[q]? = some (.cells #[.string s0, .string s1, .pointer none, .slice r_1 l c'_1] 62 (0, 0)) ∧ Below we.heap.size we ((((w1.setCell ⟨we.heap.size, 0, none⟩ (.string s0)).setCell ⟨we.heap.size, 1, none⟩ (.string s1)).setCell ⟨we.heap.size, 2, none⟩ (.pointer none)).setCell ⟨we.heap.size, 3, none⟩ (.slice r l c')) ∧ we.heap.size ≤ q ∧ Past X r_1 ∧ (l = 0 ∨ ∃ b off, r_1 = some ⟨b, off, none⟩ ∧ b ≠ q) ∧ BRow ((((w1.setCell ⟨we.heap.size, 0, none⟩ (.string s0)).setCell ⟨we.heap.size, 1, none⟩ (.string s1)).setCell ⟨we.heap.size, 2, none⟩ (.pointer none)).setCell ⟨we.heap.size, 3, none⟩ (.slice r l c')) r_1 l fm ∧ r_1.isNone = z := by
  have hp : Past we.heap.size r := fun y h => by
    have h1 := hpa y h
    have h2 : (we.alloc o).drew.heap.size = we.heap.size + 1 := by
      show (we.alloc o).heap.size = _
      simp
    omega
  refine ⟨we.heap.size, r, c', rfl, hX, blk_set (blk_set (blk_set (blk_set hz 0 _) 1 _) 2 _) 3 _, (((hw1.setCell (Nat.le_refl _) _).setCell (Nat.le_refl _) _).setCell (Nat.le_refl _) _).setCell (Nat.le_refl _) _, Nat.le_refl _, fun y h => Nat.lt_trans hX (hp y h), ?_, hr.keep hp (((((Kept.refl _ _).set 0 _).set 1 _).set 2 _).set 3 _), hn⟩
  rcases hr.2 with h0 | ⟨b, off, ha, hlt, _⟩
  · exact .inl h0
  · exact .inr ⟨b, off, ha, by have := hp _ ha; simp at this; omega⟩
theorem bel_two (we : World) (o : Obj) : Below we.heap.size we (we.alloc o).drew := ((Below.refl _ _).alloc (Nat.le_refl _) _).drew
theorem zb_of (we : World) (o : Obj) (w1 : World) (h : Below (we.alloc o).drew.heap.size (we.alloc o).drew w1) : w1.heap[we.heap.size]? = some o :=
  (h.block we.heap.size (by show we.heap.size < (we.alloc o).heap.size; simp)).trans (blk_new we o)
theorem cell_new (w w' : World) (v : Value) (t : TypeId) (hs : w'.heap.size = w.heap.size) : (w'.alloc (.cells #[v] t)).cell? ⟨w.heap.size, 0, none⟩ = some v := by
  rw [← hs]
  exact (blk_cell (blk_new _ _) 0).trans rfl
theorem cell_new_old (w : World) (v : Value) (t : TypeId) (X k : Nat) (u : Value) (hX : X < w.heap.size) : ((w.alloc (.cells #[v] t)).setCell ⟨X, k, none⟩ u).cell? ⟨w.heap.size, 0, none⟩ = some v := by
  rw [World.cell?_of_block (w := w.alloc (.cells #[v] t)) (a := ⟨w.heap.size, 0, none⟩) (blk_set_ne (by show X ≠ w.heap.size; omega) _ _)]
  exact (blk_cell (blk_new _ _) 0).trans rfl

set_option maxRecDepth 100000 in
set_option maxHeartbeats 8000000 in
theorem cloneTurn_some (s0 s1 s2 s3 s5 s7 t8 : ByteArray) (n4 n6 : Int) (p8 p9 p10 p11 a12 a13 a14 p15 : Option Addr) (l12 l13 l14 c12 c13 c14 : Nat) (w : World)
    (f12 f13 f14 fm : Nat → UInt8) (m : Met) (k12 : l12 ≤ 1048576) (k13 : l13 ≤ 1048576) (k14 : l14 ≤ 1048576) (k15 : p15 = none ∨ m.l3 ≤ 1048576)
    (g8 : PStr w p8 t8) (g9 : PInt w p9) (g10 : PInt w p10) (g11 : PFlt w p11) (g12 : BRow w a12 l12 f12) (g13 : BRow w a13 l13 f13) (g14 : BRow w a14 l14 f14) (g15 : PMet w p15 m fm) :
    Calls Try.prog 14 #[.agg #[.string s0, .string s1, .string s2, .string s3, .int .i64 n4, .string s5, .int .i64 n6, .string s7, .pointer p8, .pointer p9, .pointer p10, .pointer p11, .slice a12 l12 c12, .slice a13 l13 c13, .slice a14 l14 c14, .pointer p15]] w fun e w' => ∃ d' m', e = .returned (.agg d'.cells) ∧ Good w' d' m' ⟨t8, f12, f13, f14, fm⟩ ∧ Same ⟨s0, s1, s2, s3, n4, s5, n6, s7, p8, p9, p10, p11, a12, l12, c12, a13, l13, c13, a14, l14, c14, p15⟩ m d' m' ∧ Fresh w.heap.size d' m' ∧ Below w.heap.size w w' := by
  replace g8 := hid g8
  replace g9 := hid g9
  replace g10 := hid g10
  replace g11 := hid g11
  replace g12 := hid g12
  replace g13 := hid g13
  replace g14 := hid g14
  replace g15 := hid g15
  go_enter Try.func14, Try.ntmps14
  go_upto_if 13 with fail
  have hst := St.begin w #[.string s0, .string s1, .string s2, .string s3, .int .i64 n4, .string s5, .int .i64 n6, .string s7, .pointer p8, .pointer p9, .pointer p10, .pointer p11, .slice a12 l12 c12, .slice a13 l13 c13, .slice a14 l14 c14, .pointer p15]
  unfold zeroT at hst
  generalize (((w.alloc (.cells #[.string s0, .string s1, .string s2, .string s3, .int .i64 n4, .string s5, .int .i64 n6, .string s7, .pointer p8, .pointer p9, .pointer p10, .pointer p11, .slice a12 l12 c12, .slice a13 l13 c13, .slice a14 l14 c14, .pointer p15] 36)).alloc (.cells _ 36)).alloc (.cells #[.string s0, .string s1, .string s2, .string s3, .int .i64 n4, .string s5, .int .i64 n6, .string s7, .pointer p8, .pointer p9, .pointer p10, .pointer p11, .slice a12 l12 c12, .slice a13 l13 c13, .slice a14 l14 c14, .pointer p15] 36)) = wc at hst ⊢
  have e8 : wc.cell? ⟨w.heap.size, 8, none⟩ = some (.pointer p8) := (blk_cell hst.b0 8).trans rfl
  have HST := hid hst
  clear hst
  go_cut [] (fun wc => ∃ q8, St w wc #[.string s0, .string s1, .string s2, .string s3, .int .i64 n4, .string s5, .int .i64 n6, .string s7, .pointer p8, .pointer p9, .pointer p10, .pointer p11, .slice a12 l12 c12, .slice a13 l13 c13, .slice a14 l14 c14, .pointer p15] #[.string s0, .string s1, .string s2, .string s3, .int .i64 n4, .string s5, .int .i64 n6, .string s7, .pointer q8, .pointer p9, .pointer p10, .pointer p11, .slice a12 l12 c12, .slice a13 l13 c13, .slice a14 l14 c14, .pointer p15] ∧ Past (w.heap.size + 1 + 1) q8 ∧ PStr wc q8 t8)
  case first =>
    have hst := HST.out
    have hsz := blk_lt hst.b2
    have z8 : wc.cell? ⟨w.heap.size + 1 + 1, 8, none⟩ = some (.pointer p8) := (blk_cell hst.b2 8).trans rfl
    have y8 := blk_free hst.b2 8
    clear hst
    rcases g8.out with rfl | ⟨b, o, rfl, c⟩
    · go_wp2_with fail
      go_meet
      case rel => exact ⟨none, HST.out, past_none _, .inl rfl⟩
    · have hb := lt_of_cell c
      have c' := (HST.out.bel.cell hb).trans c
      have hb' : b < wc.heap.size := Nat.lt_of_lt_of_le hb HST.out.bel.size
      go_wp2_with fail
      go_meet
      case rel =>
        have K : Kept (w.heap.size + 1 + 1) wc ((wc.setCell ⟨w.heap.size + 1 + 1, 8, none⟩ (.pointer (some ⟨wc.heap.size, 0, none⟩))).alloc (.cells #[.string t8] 9)) := ((Kept.refl _ _).set _ _).alloc _
        exact ⟨some ⟨wc.heap.size, 0, none⟩, (HST.out.set 8 _).alloc _, past_some hsz, .inr ⟨wc.heap.size, 0, rfl, cell_new _ _ _ _ (by simp)⟩⟩
  case rest =>
  clear e8 HST
  obtain ⟨q8, hst, hp8, h8⟩ := hcut
  have e9 : wc.cell? ⟨w.heap.size, 9, none⟩ = some (.pointer p9) := (blk_cell hst.b0 9).trans rfl
  have HST := hid hst
  clear hst
  go_upto_if 21 with fail
  go_cut [] (fun wc => ∃ q9, St w wc #[.string s0, .string s1, .string s2, .string s3, .int .i64 n4, .string s5, .int .i64 n6, .string s7, .pointer p8, .pointer p9, .pointer p10, .pointer p11, .slice a12 l12 c12, .slice a13 l13 c13, .slice a14 l14 c14, .pointer p15] #[.string s0, .string s1, .string s2, .string s3, .int .i64 n4, .string s5, .int .i64 n6, .string s7, .pointer q8, .pointer q9, .pointer p10, .pointer p11, .slice a12 l12 c12, .slice a13 l13 c13, .slice a14 l14 c14, .pointer p15] ∧ Past (w.heap.size + 1 + 1) q9 ∧ PInt wc q9 ∧ Past (w.heap.size + 1 + 1) q8 ∧ PStr wc q8 t8)
  case first =>
    have hst := HST.out
    have hsz := blk_lt hst.b2
    have z9 : wc.cell? ⟨w.heap.size + 1 + 1, 9, none⟩ = some (.pointer p9) := (blk_cell hst.b2 9).trans rfl
    have y9 := blk_free hst.b2 9
    clear hst
    rcases g9.out with rfl | ⟨b, o, n, rfl, c⟩
    · go_wp2_with fail
      go_meet
      case rel => exact ⟨none, HST.out, past_none _, .inl rfl, hp8, h8⟩
    · have hb := lt_of_cell c
      have c' := (HST.out.bel.cell hb).trans c
      have hb' : b < wc.heap.size := Nat.lt_of_lt_of_le hb HST.out.bel.size
      go_wp2_with fail
      go_meet
      case rel =>
        have K : Kept (w.heap.size + 1 + 1) wc ((wc.setCell ⟨w.heap.size + 1 + 1, 9, none⟩ (.pointer (some ⟨wc.heap.size, 0, none⟩))).alloc (.cells #[.int .i64 n] 2)) := ((Kept.refl _ _).set _ _).alloc _
        exact ⟨some ⟨wc.heap.size, 0, none⟩, (HST.out.set 9 _).alloc _, past_some hsz, .inr ⟨wc.heap.size, 0, n, rfl, cell_new _ _ _ _ (by simp)⟩, hp8, h8.keep hp8 K⟩
  case rest =>
  clear e9 HST
  obtain ⟨q9, hst, hp9, h9, hp8, h8⟩ := hcut
  have e10 : wc.cell? ⟨w.heap.size, 10, none⟩ = some (.pointer p10) := (blk_cell hst.b0 10).trans rfl
  have HST := hid hst
  clear hst
  go_upto_if 29 with fail
  go_cut [] (fun wc => ∃ q10, St w wc #[.string s0, .string s1, .string s2, .string s3, .int .i64 n4, .string s5, .int .i64 n6, .string s7, .pointer p8, .pointer p9, .pointer p10, .pointer p11, .slice a12 l12 c12, .slice a13 l13 c13, .slice a14 l14 c14, .pointer p15] #[.string s0, .string s1, .string s2, .string s3, .int .i64 n4, .string s5, .int .i64 n6, .string s7, .pointer q8, .pointer q9, .pointer q10, .pointer p11, .slice a12 l12 c12, .slice a13 l13 c13, .slice a14 l14 c14, .pointer p15] ∧ Past (w.heap.size + 1 + 1) q10 ∧ PInt wc q10 ∧ Past (w.heap.size + 1 + 1) q9 ∧ PInt wc q9 ∧ Past (w.heap.size + 1 + 1) q8 ∧ PStr wc q8 t8)
  case first =>
    have hst := HST.out
    have hsz := blk_lt hst.b2
    have z10 : wc.cell? ⟨w.heap.size + 1 + 1, 10, none⟩ = some (.pointer p10) := (blk_cell hst.b2 10).trans rfl
    have y10 := blk_free hst.b2 10
    clear hst
    rcases g10.out with rfl | ⟨b, o, n, rfl, c⟩
    · go_wp2_with fail
      go_meet
      case rel => exact ⟨none, HST.out, past_none _, .inl rfl, hp9, h9, hp8, h8⟩
    · have hb := lt_of_cell c
      have c' := (HST.out.bel.cell hb).trans c
      have hb' : b < wc.heap.size := Nat.lt_of_lt_of_le hb HST.out.bel.size
      go_wp2_with fail
      go_meet
      case rel =>
        have K : Kept (w.heap.size + 1 + 1) wc ((wc.setCell ⟨w.heap.size + 1 + 1, 10, none⟩ (.pointer (some ⟨wc.heap.size, 0, none⟩))).alloc (.cells #[.int .i64 n] 2)) := ((Kept.refl _ _).set _ _).alloc _
        exact ⟨some ⟨wc.heap.size, 0, none⟩, (HST.out.set 10 _).alloc _, past_some hsz, .inr ⟨wc.heap.size, 0, n, rfl, cell_new _ _ _ _ (by simp)⟩, hp9, h9.keep hp9 K, hp8, h8.keep hp8 K⟩
  case rest =>
  clear e10 HST
  obtain ⟨q10, hst, hp10, h10, hp9, h9, hp8, h8⟩ := hcut
  have e11 : wc.cell? ⟨w.heap.size, 11, none⟩ = some (.pointer p11) := (blk_cell hst.b0 11).trans rfl
  have HST := hid hst
  clear hst
  go_upto_if 37 with fail
  go_cut [] (fun wc => ∃ q11, St w wc #[.string s0, .string s1, .string s2, .string s3, .int .i64 n4, .string s5, .int .i64 n6, .string s7, .pointer p8, .pointer p9, .pointer p10, .pointer p11, .slice a12 l12 c12, .slice a13 l13 c13, .slice a14 l14 c14, .pointer p15] #[.string s0, .string s1, .string s2, .string s3, .int .i64 n4, .string s5, .int .i64 n6, .string s7, .pointer q8, .pointer q9, .pointer q10, .pointer q11, .slice a12 l12 c12, .slice a13 l13 c13, .slice a14 l14 c14, .pointer p15] ∧ Past (w.heap.size + 1 + 1) q11 ∧ PFlt wc q11 ∧ Past (w.heap.size + 1 + 1) q10 ∧ PInt wc q10 ∧ Past (w.heap.size + 1 + 1) q9 ∧ PInt wc q9 ∧ Past (w.heap.size + 1 + 1) q8 ∧ PStr wc q8 t8)
  case first =>
    have hst := HST.out
    have hsz := blk_lt hst.b2
    have z11 : wc.cell? ⟨w.heap.size + 1 + 1, 11, none⟩ = some (.pointer p11) := (blk_cell hst.b2 11).trans rfl
    have y11 := blk_free hst.b2 11
    clear hst
    rcases g11.out with rfl | ⟨b, o, n, rfl, c⟩
    · go_wp2_with fail
      go_meet
      case rel => exact ⟨none, HST.out, past_none _, .inl rfl, hp10, h10, hp9, h9, hp8, h8⟩
    · have hb := lt_of_cell c
      have c' := (HST.out.bel.cell hb).trans c
      have hsf := fun (w : World) (a : Addr) (m : Mode) => run_store Try.prog w a (.float .f64 n) m rfl
      have hb' : b < wc.heap.size := Nat.lt_of_lt_of_le hb HST.out.bel.size
      go_wp2_with fail
      go_meet
      case rel =>
        have K : Kept (w.heap.size + 1 + 1) wc ((wc.setCell ⟨w.heap.size + 1 + 1, 11, none⟩ (.pointer (some ⟨wc.heap.size, 0, none⟩))).alloc (.cells #[.float .f64 n] 63)) := ((Kept.refl _ _).set _ _).alloc _
        exact ⟨some ⟨wc.heap.size, 0, none⟩, (HST.out.set 11 _).alloc _, past_some hsz, .inr ⟨wc.heap.size, 0, n, rfl, cell_new _ _ _ _ (by simp)⟩, hp10, h10.keep hp10 K, hp9, h9.keep hp9 K, hp8, h8.keep hp8 K⟩
  case rest =>
  clear e11 HST
  obtain ⟨q11, hst, hp11, h11, hp10, h10, hp9, h9, hp8, h8⟩ := hcut
  have e12 : (wc).cell? ⟨w.heap.size, 12, none⟩ = some (.slice a12 l12 c12) := (blk_cell hst.b0 12).trans rfl
  have HC := hid (clone_any a12 l12 c12 f12 (wc) k12 (g12.out.below (Nat.le_refl _) hst.bel))
  have HST := hid hst
  clear hst
  go_wp2_with fail
  refine HC.out.mono ?_
  rintro e w1 ⟨r12, d12, rfl, hr12, hn12, hpa12, hb1⟩
  have hst := HST.out.below hb1
  have hs1 : w.heap.size + 1 + 1 < (wc).heap.size := blk_lt HST.out.b2
  clear HST HC e12
  have z12 : w1.cell? ⟨w.heap.size + 1 + 1, 12, none⟩ = some (.slice a12 l12 c12) := (blk_cell hst.b2 12).trans rfl
  have y12 := blk_free hst.b2 12
  replace hst : St w (w1.setCell ⟨w.heap.size + 1 + 1, 12, none⟩ (.slice r12 l12 d12)) #[.string s0, .string s1, .string s2, .string s3, .int .i64 n4, .string s5, .int .i64 n6, .string s7, .pointer p8, .pointer p9, .pointer p10, .pointer p11, .slice a12 l12 c12, .slice a13 l13 c13, .slice a14 l14 c14, .pointer p15] #[.string s0, .string s1, .string s2, .string s3, .int .i64 n4, .string s5, .int .i64 n6, .string s7, .pointer q8, .pointer q9, .pointer q10, .pointer q11, .slice r12 l12 d12, .slice a13 l13 c13, .slice a14 l14 c14, .pointer p15] := hst.set 12 _
  have e13 : (w1.setCell ⟨w.heap.size + 1 + 1, 12, none⟩ (.slice r12 l12 d12)).cell? ⟨w.heap.size, 13, none⟩ = some (.slice a13 l13 c13) := (blk_cell hst.b0 13).trans rfl
  have HC := hid (clone_any a13 l13 c13 f13 (w1.setCell ⟨w.heap.size + 1 + 1, 12, none⟩ (.slice r12 l12 d12)) k13 (g13.out.below (Nat.le_refl _) hst.bel))
  have HST := hid hst
  clear hst
  go_wp2_with fail
  refine HC.out.mono ?_
  rintro e w2 ⟨r13, d13, rfl, hr13, hn13, hpa13, hb2⟩
  have hst := HST.out.below hb2
  have hs2 : w.heap.size + 1 + 1 < (w1.setCell ⟨w.heap.size + 1 + 1, 12, none⟩ (.slice r12 l12 d12)).heap.size := blk_lt HST.out.b2
  clear HST HC e13
  have z13 : w2.cell? ⟨w.heap.size + 1 + 1, 13, none⟩ = some (.slice a13 l13 c13) := (blk_cell hst.b2 13).trans rfl
  have y13 := blk_free hst.b2 13
  replace hst : St w (w2.setCell ⟨w.heap.size + 1 + 1, 13, none⟩ (.slice r13 l13 d13)) #[.string s0, .string s1, .string s2, .string s3, .int .i64 n4, .string s5, .int .i64 n6, .string s7, .pointer p8, .pointer p9, .pointer p10, .pointer p11, .slice a12 l12 c12, .slice a13 l13 c13, .slice a14 l14 c14, .pointer p15] #[.string s0, .string s1, .string s2, .string s3, .int .i64 n4, .string s5, .int .i64 n6, .string s7, .pointer q8, .pointer q9, .pointer q10, .pointer q11, .slice r12 l12 d12, .slice r13 l13 d13, .slice a14 l14 c14, .pointer p15] := hst.set 13 _
  have e14 : (w2.setCell ⟨w.heap.size + 1 + 1, 13, none⟩ (.slice r13 l13 d13)).cell? ⟨w.heap.size, 14, none⟩ = some (.slice a14 l14 c14) := (blk_cell hst.b0 14).trans rfl
  have HC := hid (clone_any a14 l14 c14 f14 (w2.setCell ⟨w.heap.size + 1 + 1, 13, none⟩ (.slice r13 l13 d13)) k14 (g14.out.below (Nat.le_refl _) hst.bel))
  have HST := hid hst
  clear hst
  go_wp2_with fail
  refine HC.out.mono ?_
  rintro e w3 ⟨r14, d14, rfl, hr14, hn14, hpa14, hb3⟩
  have hst := HST.out.below hb3
  have hs3 : w.heap.size + 1 + 1 < (w2.setCell ⟨w.heap.size + 1 + 1, 13, none⟩ (.slice r13 l13 d13)).heap.size := blk_lt HST.out.b2
  clear HST HC e14
  have z14 : w3.cell? ⟨w.heap.size + 1 + 1, 14, none⟩ = some (.slice a14 l14 c14) := (blk_cell hst.b2 14).trans rfl
  have y14 := blk_free hst.b2 14
  replace hst : St w (w3.setCell ⟨w.heap.size + 1 + 1, 14, none⟩ (.slice r14 l14 d14)) #[.string s0, .string s1, .string s2, .string s3, .int .i64 n4, .string s5, .int .i64 n6, .string s7, .pointer p8, .pointer p9, .pointer p10, .pointer p11, .slice a12 l12 c12, .slice a13 l13 c13, .slice a14 l14 c14, .pointer p15] #[.string s0, .string s1, .string s2, .string s3, .int .i64 n4, .string s5, .int .i64 n6, .string s7, .pointer q8, .pointer q9, .pointer q10, .pointer q11, .slice r12 l12 d12, .slice r13 l13 d13, .slice r14 l14 d14, .pointer p15] := hst.set 14 _
  have K1 : Kept (w.heap.size + 1 + 1) wc (w3.setCell ⟨w.heap.size + 1 + 1, 14, none⟩ (.slice r14 l14 d14)) := ((((((Kept.refl _ _).below hb1).set 12 _).below hb2).set 13 _).below hb3).set 14 _
  have K2 : Kept (w.heap.size + 1 + 1) w1 (w3.setCell ⟨w.heap.size + 1 + 1, 14, none⟩ (.slice r14 l14 d14)) := (((((Kept.refl _ _).set 12 _).below hb2).set 13 _).below hb3).set 14 _
  have K3 : Kept (w.heap.size + 1 + 1) w2 (w3.setCell ⟨w.heap.size + 1 + 1, 14, none⟩ (.slice r14 l14 d14)) := (((Kept.refl _ _).set 13 _).below hb3).set 14 _
  have K4 : Kept (w.heap.size + 1 + 1) w3 (w3.setCell ⟨w.heap.size + 1 + 1, 14, none⟩ (.slice r14 l14 d14)) := (Kept.refl _ _).set 14 _
  have pa12 : Past (w.heap.size + 1 + 1) r12 := fun y h => Nat.lt_of_lt_of_le hs1 (hpa12 y h)
  have pa13 : Past (w.heap.size + 1 + 1) r13 := fun y h => Nat.lt_of_lt_of_le hs2 (hpa13 y h)
  have pa14 : Past (w.heap.size + 1 + 1) r14 := fun y h => Nat.lt_of_lt_of_le hs3 (hpa14 y h)
  replace h8 := h8.keep hp8 K1
  replace h9 := h9.keep hp9 K1
  replace h10 := h10.keep hp10 K1
  replace h11 := h11.keep hp11 K1
  replace hr12 := hr12.keep pa12 K2
  replace hr13 := hr13.keep pa13 K3
  replace hr14 := hr14.keep pa14 K4
  have e15 : (w3.setCell ⟨w.heap.size + 1 + 1, 14, none⟩ (.slice r14 l14 d14)).cell? ⟨w.heap.size, 15, none⟩ = some (.pointer p15) := (blk_cell hst.b0 15).trans rfl
  clear K1 K2 K3 K4 hb1 hb2 hb3 hpa12 hpa13 hpa14 hs1 hs2 hs3 z12 z13
  have HST := hid hst
  clear hst
  go_upto_if 57 with fail
  clear z14 y12 y13 y14
  generalize w3.setCell ⟨w.heap.size + 1 + 1, 14, none⟩ (.slice r14 l14 d14) = we at *
  go_cut [] (fun wc => ∃ q15 m', St w wc #[.string s0, .string s1, .string s2, .string s3, .int .i64 n4, .string s5, .int .i64 n6, .string s7, .pointer p8, .pointer p9, .pointer p10, .pointer p11, .slice a12 l12 c12, .slice a13 l13 c13, .slice a14 l14 c14, .pointer p15] #[.string s0, .string s1, .string s2, .string s3, .int .i64 n4, .string s5, .int .i64 n6, .string s7, .pointer q8, .pointer q9, .pointer q10, .pointer q11, .slice r12 l12 d12, .slice r13 l13 d13, .slice r14 l14 d14, .pointer q15] ∧ QMet (w.heap.size + 1 + 1) wc p15 q15 m m' fm ∧ PStr wc q8 t8 ∧ PInt wc q9 ∧ PInt wc q10 ∧ PFlt wc q11 ∧ BRow wc r12 l12 f12 ∧ BRow wc r13 l13 f13 ∧ BRow wc r14 l14 f14)
  case first =>
    rcases g15.out with rfl | ⟨b, o, rfl, hm, hmi, hmr⟩
    · go_wp2_with fail
      go_meet
      case rel => exact ⟨none, m, HST.out, .inl ⟨rfl, rfl, rfl⟩, h8, h9, h10, h11, hr12, hr13, hr14⟩
    · have hb := lt_of_cell hm.c0
      have hbe := HST.out.bel
      have hsz := blk_lt HST.out.b2
      have hb' : b < we.heap.size := Nat.lt_of_lt_of_le hb hbe.size
      have hB : w.heap.size < we.heap.size := by omega
      have i0 := (hbe.cell hb).trans hm.c0
      have i1 := (hbe.cell hb).trans hm.c1
      have i2 := (hbe.cell hb).trans hm.c2
      have i3 := (hbe.cell hb).trans hm.c3
      have HC := hid (fun wz (hz : Below we.heap.size we wz) => (clone_any m.a3 m.l3 m.c3 fm wz (k15.resolve_left (by simp)) ((hmr.below (Nat.le_refl _) hbe).below (Nat.le_refl _) hz)).mono (R' := fun e w' => ∃ a' c', e = .returned (.slice a' m.l3 c') ∧ BRow w' a' m.l3 fm ∧ a'.isNone = m.a3.isNone ∧ (∀ y, a' = some y → wz.heap.size ≤ y.block) ∧ Below wz.heap.size wz w' ∧ Below we.heap.size we w') (fun e w' ⟨a', c', h1, h2, h3, h4, h5⟩ => ⟨a', c', h1, h2, h3, h4, h5, hz.trans (h5.mono hz.size)⟩))
      have BL1 := hid (show Below we.heap.size we we.drew from (Below.refl _ _).drew)
      have BL2 := hid (bel_two we (.cells #[.string ⟨#[]⟩, .string ⟨#[]⟩, .pointer none, .slice none 0 0] 62))
      have ZB := hid (zb_of we (.cells #[.string ⟨#[]⟩, .string ⟨#[]⟩, .pointer none, .slice none 0 0] 62))
      clear hm hbe hmr
      replace hmi := hid hmi
      go_upto_region 18 with fail
      go_cut [8] (fun s8 wc => ∃ q r c', s8 = .pointer (some ⟨q, 0, none⟩) ∧ w.heap.size + 1 + 1 < q ∧ wc.heap[q]? = some (.cells #[.string m.s0, .string m.s1, .pointer none, .slice r m.l3 c'] 62 (0, 0)) ∧ Below we.heap.size we wc ∧ we.heap.size ≤ q ∧ Past (w.heap.size + 1 + 1) r ∧ (m.l3 = 0 ∨ ∃ b off, r = some ⟨b, off, none⟩ ∧ b ≠ q) ∧ BRow wc r m.l3 fm ∧ r.isNone = m.a3.isNone)
      case first =>
        clear h8 h9 h10 h11 hr12 hr13 hr14 hp8 hp9 hp10 hp11 pa12 pa13 pa14 hn12 hn13 hn14 HST hmi g8 g9 g10 g11 g12 g13 g14 g15
        go_region_held3 (fun w' => w'.cell? ⟨w.heap.size, 15, none⟩ = some (.pointer (some ⟨b, o, none⟩)) ∧ w'.cell? ⟨b, o, none⟩ = some (.string m.s0) ∧ w'.cell? ⟨b, o + 1, none⟩ = some (.string m.s1) ∧ w'.cell? ⟨b, o + 3, none⟩ = some (.slice m.a3 m.l3 m.c3)) (refine ⟨?_, ?_, ?_, ?_⟩ <;> (first | with_reducible assumption | (go_simp; done))) ((go_at_call 19; refine (HC.out _ ?_).mono ?_; (with_reducible first | exact BL1.out | exact BL2.out); rintro e w1 ⟨r, c', rfl, hr, hn, hpa, hb1, hw1⟩; have hbw := Nat.lt_of_lt_of_le hb' hw1.size; have hBw := Nat.lt_of_lt_of_le hB hw1.size; have e15w := (hw1.cell (show w.heap.size < we.heap.size by omega)).trans e15; have i0w := (hw1.cell hb').trans i0; have i1w := (hw1.cell hb').trans i1; have i2w := (hw1.cell hb').trans i2; have i3w := (hw1.cell hb').trans i3; (with_reducible first | (have zb := ZB.out _ hb1; have z0 : w1.cell? ⟨we.heap.size, 0, none⟩ = some (.string ⟨#[]⟩) := (blk_cell zb 0).trans rfl; have z1 : w1.cell? ⟨we.heap.size, 1, none⟩ = some (.string ⟨#[]⟩) := (blk_cell zb 1).trans rfl; have z2 : w1.cell? ⟨we.heap.size, 2, none⟩ = some (.pointer none) := (blk_cell zb 2).trans rfl; have z3 : w1.cell? ⟨we.heap.size, 3, none⟩ = some (.slice none 0 0) := (blk_cell zb 3).trans rfl; have y0 := blk_free zb 0; have y1 := blk_free zb 1; have y2 := blk_free zb 2; have y3 := blk_free zb 3; have hzw := blk_lt zb; replace zb := hid zb) | skip)))
        all_goals (go_wp2_with fail; go_meet)
        · exact reg_one hsz hr hn hpa hw1
        · exact reg_two hsz hr hn hpa hw1 zb.out
      case rest =>
        obtain ⟨q, r, c', rfl, hq, hqb, hbw, hqw, hpr, hne, hrow, hnr⟩ := hcut
        have hst := HST.out.below hbw
        have K0 : Kept (w.heap.size + 1 + 1) we wc := (Kept.refl _ _).below hbw
        have hqs := blk_lt hqb
        have hs2 := blk_lt hst.b2
        have hs0 : w.heap.size < wc.heap.size := by omega
        have hbc : b < wc.heap.size := Nat.lt_of_lt_of_le hb' hbw.size
        have e15c := (hbw.cell hB).trans e15
        have i2c := (hbw.cell hb').trans i2
        have z2 : wc.cell? ⟨q, 2, none⟩ = some (.pointer none) := (blk_cell hqb 2).trans rfl
        have y2 := blk_free hqb 2
        have z15 : wc.cell? ⟨w.heap.size + 1 + 1, 15, none⟩ = some (.pointer (some ⟨b, o, none⟩)) := (blk_cell hst.b2 15).trans rfl
        have y15 := blk_free hst.b2 15
        have hqX : ¬ q = w.heap.size + 1 + 1 := by omega
        have hqX' : ¬ w.heap.size + 1 + 1 = q := by omega
        have hqB : ¬ q = w.heap.size := by omega
        have HST2 := hid hst
        replace hqb := hid hqb
        replace hbw := hid hbw
        clear hst e15 i0 i1 i2 i3 HC BL1 BL2 ZB HST
        rcases hmi.out with h2 | ⟨b2, o2, n2, h2, c2⟩
        · go_wp2_with fail
          go_meet
          case rel =>
            have K := K0.set 15 (.pointer (some ⟨q, 0, none⟩))
            exact ⟨some ⟨q, 0, none⟩, ⟨m.s0, m.s1, none, r, m.l3, c'⟩, HST2.out.set 15 _, .inr ⟨q, hq, rfl, rfl, (blk_set_ne hqX' _ _).trans hqb.out, rfl, rfl, rfl, hnr, past_none _, .inl rfl, hpr, hrow.keep hpr ((Kept.refl _ _).set 15 _)⟩, h8.keep hp8 K, h9.keep hp9 K, h10.keep hp10 K, h11.keep hp11 K, hr12.keep pa12 K, hr13.keep pa13 K, hr14.keep pa14 K⟩
        · have hb2 := lt_of_cell c2
          have c2c := (HST2.out.bel.cell hb2).trans c2
          have hb2c : b2 < wc.heap.size := Nat.lt_of_lt_of_le hb2 HST2.out.bel.size
          go_wp2_with fail
          go_meet
          case rel =>
            have K := ((K0.new hqw 2 (.pointer (some ⟨wc.heap.size, 0, none⟩))).set 15 (.pointer (some ⟨q, 0, none⟩))).alloc (.cells #[.int .i64 n2] 2)
            exact ⟨some ⟨q, 0, none⟩, ⟨m.s0, m.s1, some ⟨wc.heap.size, 0, none⟩, r, m.l3, c'⟩, ((HST2.out.setq hq 2 _).set 15 _).alloc _, .inr ⟨q, hq, rfl, rfl, blk_alloc ((blk_set_ne hqX' _ _).trans (blk_set hqb.out 2 _)), rfl, rfl, rfl, hnr, past_some hs2, .inr ⟨wc.heap.size, 0, n2, rfl, cell_new _ _ _ _ (by simp)⟩, hpr, (hrow.setNe hne 2 _).keep hpr (((Kept.refl _ _).set 15 _).alloc _)⟩, h8.keep hp8 K, h9.keep hp9 K, h10.keep hp10 K, h11.keep hp11 K, hr12.keep pa12 K, hr13.keep pa13 K, hr14.keep pa14 K⟩
  case rest =>
  clear HST e15 h8 h9 h10 h11 hr12 hr13 hr14
  obtain ⟨q15, m', hst, hm, h8, h9, h10, h11, hr12, hr13, hr14⟩ := hcut
  have HST := hid hst
  replace hm := hid hm
  clear hst
  go_wp2_with (first | (refine wpList_load36 _ rfl (.tmp 3) rfl (w.heap.size + 1 + 1) 36 #[.string s0, .string s1, .string s2, .string s3, .int .i64 n4, .string s5, .int .i64 n6, .string s7, .pointer q8, .pointer q9, .pointer q10, .pointer q11, .slice r12 l12 d12, .slice r13 l13 d13, .slice r14 l14 d14, .pointer q15] rfl HST.out.b2 rfl ?_) | (refine wpList_store36 _ rfl (.tmp 2) (.tmp 90) rfl (w.heap.size + 1) 36 zeroT #[.string s0, .string s1, .string s2, .string s3, .int .i64 n4, .string s5, .int .i64 n6, .string s7, .pointer q8, .pointer q9, .pointer q10, .pointer q11, .slice r12 l12 d12, .slice r13 l13 d13, .slice r14 l14 d14, .pointer q15] rfl rfl HST.out.b1 rfl rfl (one16 ⟨s0, s1, s2, s3, n4, s5, n6, s7, q8, q9, q10, q11, r12, l12, d12, r13, l13, d13, r14, l14, d14, q15⟩) ?_))
  have hst := HST.out
  have hat : (wc.setRow (w.heap.size + 1) #[.string s0, .string s1, .string s2, .string s3, .int .i64 n4, .string s5, .int .i64 n6, .string s7, .pointer q8, .pointer q9, .pointer q10, .pointer q11, .slice r12 l12 d12, .slice r13 l13 d13, .slice r14 l14 d14, .pointer q15]).heap[w.heap.size + 1]? = some (.cells #[.string s0, .string s1, .string s2, .string s3, .int .i64 n4, .string s5, .int .i64 n6, .string s7, .pointer q8, .pointer q9, .pointer q10, .pointer q11, .slice r12 l12 d12, .slice r13 l13 d13, .slice r14 l14 d14, .pointer q15] 36 (0, 0)) := row_at hst.b1
  have hK : Kept (w.heap.size + 1 + 1) wc (wc.setRow (w.heap.size + 1) #[.string s0, .string s1, .string s2, .string s3, .int .i64 n4, .string s5, .int .i64 n6, .string s7, .pointer q8, .pointer q9, .pointer q10, .pointer q11, .slice r12 l12 d12, .slice r13 l13 d13, .slice r14 l14 d14, .pointer q15]) := row_kept (by omega)
  have hbel : Below w.heap.size w (wc.setRow (w.heap.size + 1) #[.string s0, .string s1, .string s2, .string s3, .int .i64 n4, .string s5, .int .i64 n6, .string s7, .pointer q8, .pointer q9, .pointer q10, .pointer q11, .slice r12 l12 d12, .slice r13 l13 d13, .slice r14 l14 d14, .pointer q15]) := below_setRow hst.bel (by omega) _
  refine bodyPost_ret (v := .agg #[.string s0, .string s1, .string s2, .string s3, .int .i64 n4, .string s5, .int .i64 n6, .string s7, .pointer q8, .pointer q9, .pointer q10, .pointer q11, .slice r12 l12 d12, .slice r13 l13 d13, .slice r14 l14 d14, .pointer q15]) ?hres rfl ?hpost
  case hres => exact results_cell_row Try.results14 _ _ (w.heap.size + 1) 36 #[.string s0, .string s1, .string s2, .string s3, .int .i64 n4, .string s5, .int .i64 n6, .string s7, .pointer q8, .pointer q9, .pointer q10, .pointer q11, .slice r12 l12 d12, .slice r13 l13 d13, .slice r14 l14 d14, .pointer q15] (0, 0) _ rfl hat Try.underlying36 rfl size36
  refine ⟨⟨s0, s1, s2, s3, n4, s5, n6, s7, q8, q9, q10, q11, r12, l12, d12, r13, l13, d13, r14, l14, d14, q15⟩, m', rfl, ?_, ?_, ?_, hbel⟩
  · exact ⟨h8.keep hp8 hK, h9.keep hp9 hK, h10.keep hp10 hK, h11.keep hp11 hK, hr12.keep pa12 hK, hr13.keep pa13 hK, hr14.keep pa14 hK, (hm.out.keep hK).met⟩
  · obtain ⟨t1, t2, t3, t4, t5⟩ := hm.out.same
    exact ⟨rfl, rfl, rfl, rfl, rfl, rfl, rfl, rfl, rfl, rfl, rfl, hn12, hn13, hn14, t1, t2, t3, t4, t5⟩
  · have P := fun (p : Option Addr) (h : Past (w.heap.size + 1 + 1) p) (y : Addr) (e : p = some y) => (show w.heap.size ≤ y.block from by have := h y e; omega)
    exact ⟨P _ hp8, P _ hp9, P _ hp10, P _ hp11, P _ pa12, P _ pa13, P _ pa14, hm.out.fresh (by omega)⟩

end Go.Proofs.Qxb6605908a.Dn
