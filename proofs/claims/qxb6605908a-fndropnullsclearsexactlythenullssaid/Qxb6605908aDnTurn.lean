/-
  zzBytes_FnDropNullsClearsExactlyTheNulls (12).
-/
import Derived.Test.Qxb6605908aDnTin
namespace Go.Proofs.Qxb6605908a.Dn
open Go.RowKit

set_option maxRecDepth 100000 in
set_option maxHeartbeats 8000000 in
theorem bytes_any (d : Tin) (m : Met) (x : Cont) (w : World) (h : Good w d m x) :
    Calls Try.prog 12 #[.agg d.cells] w fun e w' => BoolSo (Small d m x) e ∧ Below w.heap.size w w' := by
  have g8 := h.g8
  have g15 := h.g15
  clear h
  have K : (d.s0.size ≤ 1048576 ∧ d.s1.size ≤ 1048576 ∧ d.s2.size ≤ 1048576 ∧ d.s3.size ≤ 1048576 ∧ d.s5.size ≤ 1048576 ∧ d.s7.size ≤ 1048576 ∧ d.l12 ≤ 1048576 ∧ d.l13 ≤ 1048576 ∧ d.l14 ≤ 1048576) → (d.p8 = none ∨ x.t8.size ≤ 1048576) → (d.p15 = none ∨ (m.s0.size ≤ 1048576 ∧ m.s1.size ≤ 1048576 ∧ m.l3 ≤ 1048576)) → Small d m x :=
    fun h1 h2 h3 => ⟨h1.1, h1.2.1, h1.2.2.1, h1.2.2.2.1, h1.2.2.2.2.1, h1.2.2.2.2.2.1, h2, h1.2.2.2.2.2.2.1, h1.2.2.2.2.2.2.2.1, h1.2.2.2.2.2.2.2.2, h3⟩
  generalize Small d m x = goal at *
  obtain ⟨s0, s1, s2, s3, n4, s5, n6, s7, p8, p9, p10, p11, a12, l12, c12, a13, l13, c13, a14, l14, c14, p15⟩ := d
  obtain ⟨m0, m1, mp, ma, ml, mc⟩ := m
  obtain ⟨t8, f12, f13, f14, fm⟩ := x
  dsimp only [Tin.cells] at *
  replace K := hid K
  rcases g8 with rfl | ⟨b8, o8, rfl, c8⟩ <;> rcases g15 with rfl | ⟨b15, o15, rfl, hm, _, _⟩
  · go_enter Try.func12, Try.ntmps12
    go_wp2
    all_goals go_ret
    all_goals first
      | exact ⟨boolSo_no, low _ _⟩
      | exact ⟨boolSo_yes (K.out ⟨by omega, by omega, by omega, by omega, by omega, by omega, by omega, by omega, by omega⟩ (by simp) (by simp)), low _ _⟩
  · have hb15 := lt_of_cell hm.c0
    have q0 := hm.c0
    have q1 := hm.c1
    have q2 := hm.c2
    have q3 := hm.c3
    clear hm
    go_enter Try.func12, Try.ntmps12
    go_wp2
    all_goals go_ret
    all_goals first
      | exact ⟨boolSo_no, low _ _⟩
      | exact ⟨boolSo_yes (K.out ⟨by omega, by omega, by omega, by omega, by omega, by omega, by omega, by omega, by omega⟩ (by simp) (.inr ⟨by omega, by omega, by omega⟩)), low _ _⟩
  · have hb8 := lt_of_cell c8
    go_enter Try.func12, Try.ntmps12
    go_wp2
    all_goals go_ret
    all_goals first
      | exact ⟨boolSo_no, low _ _⟩
      | exact ⟨boolSo_yes (K.out ⟨by omega, by omega, by omega, by omega, by omega, by omega, by omega, by omega, by omega⟩ (.inr (by omega)) (by simp)), low _ _⟩
  · have hb8 := lt_of_cell c8
    have hb15 := lt_of_cell hm.c0
    have q0 := hm.c0
    have q1 := hm.c1
    have q2 := hm.c2
    have q3 := hm.c3
    clear hm
    go_enter Try.func12, Try.ntmps12
    go_wp2
    all_goals go_ret
    all_goals first
      | exact ⟨boolSo_no, low _ _⟩
      | exact ⟨boolSo_yes (K.out ⟨by omega, by omega, by omega, by omega, by omega, by omega, by omega, by omega, by omega⟩ (.inr (by omega)) (.inr ⟨by omega, by omega, by omega⟩)), low _ _⟩

end Go.Proofs.Qxb6605908a.Dn
