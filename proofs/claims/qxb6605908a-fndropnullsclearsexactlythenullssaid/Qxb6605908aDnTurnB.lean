/-
  zzTurnBytes (13).
-/
import Derived.Test.Qxb6605908aDnTin
namespace Go.Proofs.Qxb6605908a.Dn
open Go.RowKit

theorem not_gt {n : Nat} (h : n ≤ 1048576) : ¬ (1048576 : Int) < (n : Int) := by omega

set_option maxRecDepth 100000 in
set_option maxHeartbeats 8000000 in
theorem turnBytes_any (d : Tin) (m : Met) (x : Cont) (w : World) (h : Good w d m x) (hs : Small d m x) :
    Calls Try.prog 13 #[.agg d.cells] w fun e w' => AnyInt e ∧ Below w.heap.size w w' := by
  have g8 := h.g8
  have g15 := h.g15
  clear h
  obtain ⟨k0, k1, k2, k3, k5, k7, k8, k12, k13, k14, k15⟩ := hs
  obtain ⟨s0, s1, s2, s3, n4, s5, n6, s7, p8, p9, p10, p11, a12, l12, c12, a13, l13, c13, a14, l14, c14, p15⟩ := d
  obtain ⟨m0, m1, mp, ma, ml, mc⟩ := m
  obtain ⟨t8, f12, f13, f14, fm⟩ := x
  dsimp only [Tin.cells] at *
  have j0 := not_gt k0
  have j1 := not_gt k1
  have j2 := not_gt k2
  have j3 := not_gt k3
  have j5 := not_gt k5
  have j7 := not_gt k7
  have j12 := not_gt k12
  have j13 := not_gt k13
  have j14 := not_gt k14
  rcases g8 with rfl | ⟨b8, o8, rfl, c8⟩ <;> rcases g15 with rfl | ⟨b15, o15, rfl, hm, _, _⟩
  · go_enter Try.func13, Try.ntmps13
    go_wp2
    all_goals go_ret
    all_goals exact ⟨anyInt _, low _ _⟩
  · have hb15 := lt_of_cell hm.c0
    have q0 := hm.c0
    have q1 := hm.c1
    have q2 := hm.c2
    have q3 := hm.c3
    clear hm
    obtain ⟨k15, k16, k17⟩ := k15.resolve_left (by simp)
    have j15 := not_gt k15
    have j16 := not_gt k16
    have j17 := not_gt k17
    go_enter Try.func13, Try.ntmps13
    go_wp2
    go_quiet (fail)
    go_wp2
    all_goals go_ret
    all_goals exact ⟨anyInt _, belowN (low _ _) _⟩
  · have hb8 := lt_of_cell c8
    have k8 := k8.resolve_left (by simp)
    have j8 := not_gt k8
    go_enter Try.func13, Try.ntmps13
    go_wp2
    all_goals go_ret
    all_goals exact ⟨anyInt _, low _ _⟩
  · have hb8 := lt_of_cell c8
    have k8 := k8.resolve_left (by simp)
    have j8 := not_gt k8
    have hb15 := lt_of_cell hm.c0
    have q0 := hm.c0
    have q1 := hm.c1
    have q2 := hm.c2
    have q3 := hm.c3
    clear hm
    obtain ⟨k15, k16, k17⟩ := k15.resolve_left (by simp)
    have j15 := not_gt k15
    have j16 := not_gt k16
    have j17 := not_gt k17
    go_enter Try.func13, Try.ntmps13
    go_wp2
    go_quiet (fail)
    go_wp2
    all_goals go_ret
    all_goals exact ⟨anyInt _, belowN (low _ _) _⟩

end Go.Proofs.Qxb6605908a.Dn
