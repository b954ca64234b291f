/-
  zzBuildTurn (15).
-/
import Derived.Test.Qxb6605908aDnBlk
import Derived.BigRegion
namespace Go.Proofs.Qxb6605908a.Dn
open Go.RowKit

/-- A turn as it was built: its own cells, and the meta's. -/
def turnCells (d : Tin) (x12 x13 x14 : Value) (pm : Option Addr) : Array Value := #[.string d.s0, .string d.s1, .string d.s2, .string d.s3, .int .i64 d.n4, .string d.s5, .int .i64 d.n6, .string d.s7, .pointer d.p8, .pointer d.p9, .pointer d.p10, .pointer d.p11, x12, x13, x14, .pointer pm]

/-- The turn at block T (and its meta at block M). -/
structure Built (w : World) (d : Tin) (m : Met) (T : Nat) (pm : Option Addr) (x12 x13 x14 x3 : Value) : Prop where
  t : w.heap[T]? = some (.cells (turnCells d x12 x13 x14 pm) 48 (0, 0))
  m : (d.p15 = none ∧ pm = none) ∨ ∃ M, d.p15.isNone = false ∧ M ≠ T ∧ pm = some ⟨M, 0, none⟩ ∧ w.heap[M]? = some (.cells #[.string m.s0, .string m.s1, .pointer m.p2, x3] 66 (0, 0))

theorem blk_new' {w : World} {n : Nat} (h : w.heap.size = n) (o : Obj) : (w.alloc o).drew.heap[n]? = some o := by
  subst h
  exact blk_new w o

set_option maxRecDepth 100000 in
set_option maxHeartbeats 8000000 in
theorem build_any (d : Tin) (m : Met) (fm : Nat → UInt8) (w : World) (h : PMet w d.p15 m fm) :
    Calls Try.prog 15 #[.agg d.cells] w fun e w' => ∃ T pm, e = .returned (.pointer (some ⟨T, 0, none⟩)) ∧ w.heap.size ≤ T ∧ (∀ y, pm = some y → w.heap.size ≤ y.block) ∧ Built w' d m T pm (.slice d.a12 d.l12 d.c12) (.slice d.a13 d.l13 d.c13) (.slice d.a14 d.l14 d.c14) (.slice m.a3 m.l3 m.c3) ∧ Below w.heap.size w w' := by
  rcases h with h0 | ⟨b, off, h15, hm, _, _⟩
  · obtain ⟨s0, s1, s2, s3, n4, s5, n6, s7, p8, p9, p10, p11, a12, l12, c12, a13, l13, c13, a14, l14, c14, p15⟩ := d
    dsimp only [Tin.cells] at *
    subst h0
    go_enter Try.func15, Try.ntmps15
    go_wp2
    go_ret
    refine ⟨_, none, rfl, Nat.le_succ _, (fun _ h => by cases h), ⟨?_, .inl ⟨rfl, rfl⟩⟩, (low _ _).alloc (by simp) _⟩
    have := blk_new (w.alloc (.cells #[.string s0, .string s1, .string s2, .string s3, .int .i64 n4, .string s5, .int .i64 n6, .string s7, .pointer p8, .pointer p9, .pointer p10, .pointer p11, .slice a12 l12 c12, .slice a13 l13 c13, .slice a14 l14 c14, .pointer none] 36)) (.cells (turnCells ⟨s0, s1, s2, s3, n4, s5, n6, s7, p8, p9, p10, p11, a12, l12, c12, a13, l13, c13, a14, l14, c14, none⟩ (.slice a12 l12 c12) (.slice a13 l13 c13) (.slice a14 l14 c14) none) 48)
    simpa [turnCells] using this
  · have hb := lt_of_cell hm.c0
    obtain ⟨s0, s1, s2, s3, n4, s5, n6, s7, p8, p9, p10, p11, a12, l12, c12, a13, l13, c13, a14, l14, c14, p15⟩ := d
    dsimp only [Tin.cells] at *
    subst h15
    obtain ⟨i0, i1, i2, i3⟩ := hm
    go_enter Try.func15, Try.ntmps15
    go_wp2
    generalize hwx : (w.alloc _).alloc _ = wx at *
    have t0 : wx.heap[w.heap.size]? = some (.cells #[.string s0, .string s1, .string s2, .string s3, .int .i64 n4, .string s5, .int .i64 n6, .string s7, .pointer p8, .pointer p9, .pointer p10, .pointer p11, .slice a12 l12 c12, .slice a13 l13 c13, .slice a14 l14 c14, .pointer (some ⟨b, off, none⟩)] 36 (0, 0)) := by
      rw [← hwx]; exact blk_alloc (blk_new _ _)
    have t1 : wx.heap[w.heap.size + 1]? = some (.cells #[.string s0, .string s1, .string s2, .string s3, .int .i64 n4, .string s5, .int .i64 n6, .string s7, .pointer p8, .pointer p9, .pointer p10, .pointer p11, .slice a12 l12 c12, .slice a13 l13 c13, .slice a14 l14 c14, .pointer none] 48 (0, 0)) := by
      rw [← hwx]; simpa using blk_new (w.alloc _) _
    have hbel : Below w.heap.size w wx := by rw [← hwx]; exact (low _ _).alloc (by simp) _
    clear hwx
    have hs0 : w.heap.size < wx.heap.size := blk_lt t0
    have hs1 : w.heap.size + 1 < wx.heap.size := blk_lt t1
    have hs2 : b < wx.heap.size := by omega
    have j0 := (hbel.cell hb).trans i0
    have j1 := (hbel.cell hb).trans i1
    have j2 := (hbel.cell hb).trans i2
    have j3 := (hbel.cell hb).trans i3
    have e15 : wx.cell? ⟨w.heap.size, 15, none⟩ = some (.pointer (some ⟨b, off, none⟩)) := (blk_cell t0 15).trans rfl
    have z15 : wx.cell? ⟨w.heap.size + 1, 15, none⟩ = some (.pointer none) := (blk_cell t1 15).trans rfl
    have y15 := blk_free t1 15
    have T1 := hid t1
    have HB := hid hbel
    clear t0 t1 hbel i0 i1 i2 i3
    go_region
    go_wp2
    go_ret
    refine ⟨_, some ⟨wx.heap.size, 0, none⟩, rfl, Nat.le_succ _, (fun _ h => by cases h; show w.heap.size ≤ wx.heap.size; omega), ⟨?_, .inr ⟨wx.heap.size, rfl, by omega, rfl, ?_⟩⟩, ?_⟩
    · exact blk_alloc (blk_set T1.out 15 _)
    · exact blk_new' (by simp) _
    · exact ((HB.out.setCell (by show w.heap.size ≤ w.heap.size + 1; omega) _).alloc (by simp; omega) _).drew

end Go.Proofs.Qxb6605908a.Dn
