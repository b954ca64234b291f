/-
  zzFrameAfterDrop (17).
-/
import Derived.Test.Qxb6605908aDnSame
import Derived.Deep.RegionWith
namespace Go.Proofs.Qxb6605908a.Dn
open Go.RowKit

set_option maxRecDepth 100000 in
set_option maxHeartbeats 8000000 in
theorem frame_none (s0 s1 s2 s3 s5 s7 : ByteArray) (n4 n6 : Int) (i8 i9 i10 i11 p8 p9 p10 p11 a12 a13 a14 b12 b13 b14 y12 y13 y14 : Option Addr) (l12 l13 l14 c12 c13 c14 e12 e13 e14 k12 k13 k14 z12 z13 z14 : Nat) (f12 f13 f14 : Nat → UInt8) (T : Nat) (w : World)
    (hl12 : l12 ≤ 1048576) (hl13 : l13 ≤ 1048576) (hl14 : l14 ≤ 1048576) (g12 : BRow w a12 l12 f12) (g13 : BRow w a13 l13 f13) (g14 : BRow w a14 l14 f14) (q12 : Drop w a12 l12 f12 y12 k12) (q13 : Drop w a13 l13 f13 y13 k13) (q14 : Drop w a14 l14 f14 y14 k14)
    (ht : w.heap[T]? = some (.cells #[.string s0, .string s1, .string s2, .string s3, .int .i64 n4, .string s5, .int .i64 n6, .string s7, .pointer p8, .pointer p9, .pointer p10, .pointer p11, .slice y12 k12 z12, .slice y13 k13 z13, .slice y14 k14 z14, .pointer none] 48 (0, 0))) :
    Calls Try.prog 17 #[.pointer (some ⟨T, 0, none⟩), .agg #[.string s0, .string s1, .string s2, .string s3, .int .i64 n4, .string s5, .int .i64 n6, .string s7, .pointer i8, .pointer i9, .pointer i10, .pointer i11, .slice a12 l12 c12, .slice a13 l13 c13, .slice a14 l14 c14, .pointer none], .agg #[.string s0, .string s1, .string s2, .string s3, .int .i64 n4, .string s5, .int .i64 n6, .string s7, .pointer p8, .pointer p9, .pointer p10, .pointer p11, .slice b12 l12 e12, .slice b13 l13 e13, .slice b14 l14 e14, .pointer none], .pointer none] w fun e w' => e = .returned (.bool true) ∧ Below w.heap.size w w' := by
  have C12 := hid (dropped a12 l12 c12 y12 k12 z12 f12 w hl12 g12 q12)
  have C13 := hid (dropped a13 l13 c13 y13 k13 z13 f13 w hl13 g13 q13)
  have C14 := hid (dropped a14 l14 c14 y14 k14 z14 f14 w hl14 g14 q14)
  have hT := blk_lt ht
  have t0 : w.cell? ⟨T, 0, none⟩ = some (.string s0) := (blk_cell ht 0).trans rfl
  have t1 : w.cell? ⟨T, 1, none⟩ = some (.string s1) := (blk_cell ht 1).trans rfl
  have t2 : w.cell? ⟨T, 2, none⟩ = some (.string s2) := (blk_cell ht 2).trans rfl
  have t3 : w.cell? ⟨T, 3, none⟩ = some (.string s3) := (blk_cell ht 3).trans rfl
  have t4 : w.cell? ⟨T, 4, none⟩ = some (.int .i64 n4) := (blk_cell ht 4).trans rfl
  have t5 : w.cell? ⟨T, 5, none⟩ = some (.string s5) := (blk_cell ht 5).trans rfl
  have t6 : w.cell? ⟨T, 6, none⟩ = some (.int .i64 n6) := (blk_cell ht 6).trans rfl
  have t7 : w.cell? ⟨T, 7, none⟩ = some (.string s7) := (blk_cell ht 7).trans rfl
  have t8 : w.cell? ⟨T, 8, none⟩ = some (.pointer p8) := (blk_cell ht 8).trans rfl
  have t9 : w.cell? ⟨T, 9, none⟩ = some (.pointer p9) := (blk_cell ht 9).trans rfl
  have t10 : w.cell? ⟨T, 10, none⟩ = some (.pointer p10) := (blk_cell ht 10).trans rfl
  have t11 : w.cell? ⟨T, 11, none⟩ = some (.pointer p11) := (blk_cell ht 11).trans rfl
  have t12 : w.cell? ⟨T, 12, none⟩ = some (.slice y12 k12 z12) := (blk_cell ht 12).trans rfl
  have t13 : w.cell? ⟨T, 13, none⟩ = some (.slice y13 k13 z13) := (blk_cell ht 13).trans rfl
  have t14 : w.cell? ⟨T, 14, none⟩ = some (.slice y14 k14 z14) := (blk_cell ht 14).trans rfl
  have t15 : w.cell? ⟨T, 15, none⟩ = some (.pointer none) := (blk_cell ht 15).trans rfl
  clear ht g12 g13 g14 q12 q13 q14
  have E30 := eql30 p8
  have E31 := eql31 p9
  have E31' := eql31 p10
  have E32 := eql32 p11
  go_enter Try.func17, Try.ntmps17
  go_wp2
  generalize hwx : (w.alloc _).alloc _ = wx at *
  have x0 : wx.heap[w.heap.size]? = some (.cells #[.string s0, .string s1, .string s2, .string s3, .int .i64 n4, .string s5, .int .i64 n6, .string s7, .pointer i8, .pointer i9, .pointer i10, .pointer i11, .slice a12 l12 c12, .slice a13 l13 c13, .slice a14 l14 c14, .pointer none] 36 (0, 0)) := by
    rw [← hwx]; exact blk_alloc (blk_new _ _)
  have x1 : wx.heap[w.heap.size + 1]? = some (.cells #[.string s0, .string s1, .string s2, .string s3, .int .i64 n4, .string s5, .int .i64 n6, .string s7, .pointer p8, .pointer p9, .pointer p10, .pointer p11, .slice b12 l12 e12, .slice b13 l13 e13, .slice b14 l14 e14, .pointer none] 36 (0, 0)) := by
    rw [← hwx]; simpa using blk_new (w.alloc _) _
  have hbe : Below w.heap.size w wx := by rw [← hwx]; exact (low _ _).alloc (by simp) _
  clear hwx
  have c0 : wx.cell? ⟨w.heap.size, 0, none⟩ = some (.string s0) := (blk_cell x0 0).trans rfl
  have c1 : wx.cell? ⟨w.heap.size, 1, none⟩ = some (.string s1) := (blk_cell x0 1).trans rfl
  have c2 : wx.cell? ⟨w.heap.size, 2, none⟩ = some (.string s2) := (blk_cell x0 2).trans rfl
  have c3 : wx.cell? ⟨w.heap.size, 3, none⟩ = some (.string s3) := (blk_cell x0 3).trans rfl
  have c4 : wx.cell? ⟨w.heap.size, 4, none⟩ = some (.int .i64 n4) := (blk_cell x0 4).trans rfl
  have c5 : wx.cell? ⟨w.heap.size, 5, none⟩ = some (.string s5) := (blk_cell x0 5).trans rfl
  have c6 : wx.cell? ⟨w.heap.size, 6, none⟩ = some (.int .i64 n6) := (blk_cell x0 6).trans rfl
  have c7 : wx.cell? ⟨w.heap.size, 7, none⟩ = some (.string s7) := (blk_cell x0 7).trans rfl
  have cc12 : wx.cell? ⟨w.heap.size, 12, none⟩ = some (.slice a12 l12 c12) := (blk_cell x0 12).trans rfl
  have cc13 : wx.cell? ⟨w.heap.size, 13, none⟩ = some (.slice a13 l13 c13) := (blk_cell x0 13).trans rfl
  have cc14 : wx.cell? ⟨w.heap.size, 14, none⟩ = some (.slice a14 l14 c14) := (blk_cell x0 14).trans rfl
  have c15 : wx.cell? ⟨w.heap.size, 15, none⟩ = some (.pointer none) := (blk_cell x0 15).trans rfl
  have d8 : wx.cell? ⟨w.heap.size + 1, 8, none⟩ = some (.pointer p8) := (blk_cell x1 8).trans rfl
  have d9 : wx.cell? ⟨w.heap.size + 1, 9, none⟩ = some (.pointer p9) := (blk_cell x1 9).trans rfl
  have d10 : wx.cell? ⟨w.heap.size + 1, 10, none⟩ = some (.pointer p10) := (blk_cell x1 10).trans rfl
  have d11 : wx.cell? ⟨w.heap.size + 1, 11, none⟩ = some (.pointer p11) := (blk_cell x1 11).trans rfl
  have d15 : wx.cell? ⟨w.heap.size + 1, 15, none⟩ = some (.pointer none) := (blk_cell x1 15).trans rfl
  replace t0 := (hbe.cell (by exact hT)).trans t0
  replace t1 := (hbe.cell (by exact hT)).trans t1
  replace t2 := (hbe.cell (by exact hT)).trans t2
  replace t3 := (hbe.cell (by exact hT)).trans t3
  replace t4 := (hbe.cell (by exact hT)).trans t4
  replace t5 := (hbe.cell (by exact hT)).trans t5
  replace t6 := (hbe.cell (by exact hT)).trans t6
  replace t7 := (hbe.cell (by exact hT)).trans t7
  replace t8 := (hbe.cell (by exact hT)).trans t8
  replace t9 := (hbe.cell (by exact hT)).trans t9
  replace t10 := (hbe.cell (by exact hT)).trans t10
  replace t11 := (hbe.cell (by exact hT)).trans t11
  replace t12 := (hbe.cell (by exact hT)).trans t12
  replace t13 := (hbe.cell (by exact hT)).trans t13
  replace t14 := (hbe.cell (by exact hT)).trans t14
  replace t15 := (hbe.cell (by exact hT)).trans t15
  have HB := hid hbe
  clear x0 x1 hbe
  go_big_quiet (first | (go_at_call_of 21 (Value.slice a12 l12 c12); refine Calls.quiet_of (C12.out _ ?_); exact belowN HB.out _) | (go_at_call_of 21 (Value.slice a13 l13 c13); refine Calls.quiet_of (C13.out _ ?_); exact belowN HB.out _) | (go_at_call_of 21 (Value.slice a14 l14 c14); refine Calls.quiet_of (C14.out _ ?_); first | exact belowN HB.out _ | exact belowN (belowN HB.out _) _))
  go_wp2_with fail
  rename Nat => n1
  go_big_quiet (fail)
  go_wp2_with fail
  rename Nat => n2
  go_big_quiet (fail)
  go_wp2_with fail
  rename Nat => n3
  go_big_quiet (fail)
  go_wp2
  go_ret
  exact ⟨rfl, belowN HB.out _⟩

end Go.Proofs.Qxb6605908a.Dn
