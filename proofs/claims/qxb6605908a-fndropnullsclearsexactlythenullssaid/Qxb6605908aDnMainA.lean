/-
  FRAMES for the main walk: loads and stores of a whole turn; dropNulls and the frame's test over 'Built'.
-/
import Derived.Test.Qxb6605908aDnFrameA
import Derived.Test.Qxb6605908aDnFrameB
import Derived.Test.Qxb6605908aDnDrop
import Derived.Test.Qxb6605908aDnBuild
import Derived.Test.Qxb6605908aDnFresh
namespace Go.Proofs.Qxb6605908a.Dn
open Go.RowKit

theorem cells16 {w : World} {b : Nat} {t : TypeId} {d : Tin} (h : w.heap[b]? = some (.cells d.cells t (0, 0))) : w.cell? ⟨b, 0, none⟩ = some (.string d.s0) ∧ w.cell? ⟨b, 1, none⟩ = some (.string d.s1) ∧ w.cell? ⟨b, 2, none⟩ = some (.string d.s2) ∧ w.cell? ⟨b, 3, none⟩ = some (.string d.s3) ∧ w.cell? ⟨b, 4, none⟩ = some (.int .i64 d.n4) ∧ w.cell? ⟨b, 5, none⟩ = some (.string d.s5) ∧ w.cell? ⟨b, 6, none⟩ = some (.int .i64 d.n6) ∧ w.cell? ⟨b, 7, none⟩ = some (.string d.s7) ∧ w.cell? ⟨b, 8, none⟩ = some (.pointer d.p8) ∧ w.cell? ⟨b, 9, none⟩ = some (.pointer d.p9) ∧ w.cell? ⟨b, 10, none⟩ = some (.pointer d.p10) ∧ w.cell? ⟨b, 11, none⟩ = some (.pointer d.p11) ∧ w.cell? ⟨b, 12, none⟩ = some (.slice d.a12 d.l12 d.c12) ∧ w.cell? ⟨b, 13, none⟩ = some (.slice d.a13 d.l13 d.c13) ∧ w.cell? ⟨b, 14, none⟩ = some (.slice d.a14 d.l14 d.c14) ∧ w.cell? ⟨b, 15, none⟩ = some (.pointer d.p15) :=
  ⟨(blk_cell h 0).trans rfl, (blk_cell h 1).trans rfl, (blk_cell h 2).trans rfl, (blk_cell h 3).trans rfl, (blk_cell h 4).trans rfl, (blk_cell h 5).trans rfl, (blk_cell h 6).trans rfl, (blk_cell h 7).trans rfl, (blk_cell h 8).trans rfl, (blk_cell h 9).trans rfl, (blk_cell h 10).trans rfl, (blk_cell h 11).trans rfl, (blk_cell h 12).trans rfl, (blk_cell h 13).trans rfl, (blk_cell h 14).trans rfl, (blk_cell h 15).trans rfl⟩
theorem free16 {w : World} {b : Nat} {t : TypeId} {xs : Array Value} (h : w.heap[b]? = some (.cells xs t (0, 0))) : w.frozen? ⟨b, 0, none⟩ = false ∧ w.frozen? ⟨b, 1, none⟩ = false ∧ w.frozen? ⟨b, 2, none⟩ = false ∧ w.frozen? ⟨b, 3, none⟩ = false ∧ w.frozen? ⟨b, 4, none⟩ = false ∧ w.frozen? ⟨b, 5, none⟩ = false ∧ w.frozen? ⟨b, 6, none⟩ = false ∧ w.frozen? ⟨b, 7, none⟩ = false ∧ w.frozen? ⟨b, 8, none⟩ = false ∧ w.frozen? ⟨b, 9, none⟩ = false ∧ w.frozen? ⟨b, 10, none⟩ = false ∧ w.frozen? ⟨b, 11, none⟩ = false ∧ w.frozen? ⟨b, 12, none⟩ = false ∧ w.frozen? ⟨b, 13, none⟩ = false ∧ w.frozen? ⟨b, 14, none⟩ = false ∧ w.frozen? ⟨b, 15, none⟩ = false :=
  ⟨blk_free h 0, blk_free h 1, blk_free h 2, blk_free h 3, blk_free h 4, blk_free h 5, blk_free h 6, blk_free h 7, blk_free h 8, blk_free h 9, blk_free h 10, blk_free h 11, blk_free h 12, blk_free h 13, blk_free h 14, blk_free h 15⟩

/-- The whole turn stored. -/
def stored16 (w : World) (b : Nat) (d : Tin) : World := ((((((((((((((((w.setCell ⟨b, 0, none⟩ (.string d.s0)).setCell ⟨b, 1, none⟩ (.string d.s1)).setCell ⟨b, 2, none⟩ (.string d.s2)).setCell ⟨b, 3, none⟩ (.string d.s3)).setCell ⟨b, 4, none⟩ (.int .i64 d.n4)).setCell ⟨b, 5, none⟩ (.string d.s5)).setCell ⟨b, 6, none⟩ (.int .i64 d.n6)).setCell ⟨b, 7, none⟩ (.string d.s7)).setCell ⟨b, 8, none⟩ (.pointer d.p8)).setCell ⟨b, 9, none⟩ (.pointer d.p9)).setCell ⟨b, 10, none⟩ (.pointer d.p10)).setCell ⟨b, 11, none⟩ (.pointer d.p11)).setCell ⟨b, 12, none⟩ (.slice d.a12 d.l12 d.c12)).setCell ⟨b, 13, none⟩ (.slice d.a13 d.l13 d.c13)).setCell ⟨b, 14, none⟩ (.slice d.a14 d.l14 d.c14)).setCell ⟨b, 15, none⟩ (.pointer d.p15))
theorem stored16_at {w : World} {b : Nat} {t : TypeId} {d0 d : Tin} (h : w.heap[b]? = some (.cells d0.cells t (0, 0))) : (stored16 w b d).heap[b]? = some (.cells d.cells t (0, 0)) :=
  (blk_set (blk_set (blk_set (blk_set (blk_set (blk_set (blk_set (blk_set (blk_set (blk_set (blk_set (blk_set (blk_set (blk_set (blk_set (blk_set h 0 (.string d.s0)) 1 (.string d.s1)) 2 (.string d.s2)) 3 (.string d.s3)) 4 (.int .i64 d.n4)) 5 (.string d.s5)) 6 (.int .i64 d.n6)) 7 (.string d.s7)) 8 (.pointer d.p8)) 9 (.pointer d.p9)) 10 (.pointer d.p10)) 11 (.pointer d.p11)) 12 (.slice d.a12 d.l12 d.c12)) 13 (.slice d.a13 d.l13 d.c13)) 14 (.slice d.a14 d.l14 d.c14)) 15 (.pointer d.p15)).trans (congrArg (fun xs => some (Obj.cells xs t (0, 0))) (by simp [Tin.cells]))
theorem stored16_kept {w : World} {b : Nat} {d : Tin} : Kept b w (stored16 w b d) :=
  (((((((((((((((((Kept.refl _ _).set 0 _).set 1 _).set 2 _).set 3 _).set 4 _).set 5 _).set 6 _).set 7 _).set 8 _).set 9 _).set 10 _).set 11 _).set 12 _).set 13 _).set 14 _).set 15 _)
theorem stored16_below {B : Nat} {w0 w : World} {b : Nat} {d : Tin} (h : Below B w0 w) (hB : B ≤ b) : Below B w0 (stored16 w b d) :=
  ((((((((((((((((h.setCell (by exact hB) _).setCell (by exact hB) _).setCell (by exact hB) _).setCell (by exact hB) _).setCell (by exact hB) _).setCell (by exact hB) _).setCell (by exact hB) _).setCell (by exact hB) _).setCell (by exact hB) _).setCell (by exact hB) _).setCell (by exact hB) _).setCell (by exact hB) _).setCell (by exact hB) _).setCell (by exact hB) _).setCell (by exact hB) _).setCell (by exact hB) _)

/-- A raw field as it may stand: as it was, or gone. -/
structure Field (w : World) (l : Nat) (f : Nat → UInt8) (a : Option Addr) (a' : Option Addr) (l' c' : Nat) (v : Value) : Prop where
  val : v = .slice a' l' c'
  row : BRow w a' l' f
  drop : Drop w a l f a' l'
  again : nl l' f a' c' = v

theorem field_of {w : World} {l : Nat} {f : Nat → UInt8} {a b : Option Addr} {c : Nat} (h : BRow w b l f) (hn : b.isNone = a.isNone) : ∃ a' l' c', Field w l f a a' l' c' (nl l f b c) := by
  rcases Bool.eq_false_or_eq_true (isNull l f) with hq | hq
  · refine ⟨none, 0, 0, by rw [nl, if_pos hq], ⟨fun _ => rfl, .inl rfl⟩, ⟨fun _ => rfl, (fun h => by rw [hq] at h; cases h)⟩, ?_⟩
    rw [nl, nl, if_pos hq]
    simp
  · refine ⟨b, l, c, by rw [nl, if_neg (by rw [hq]; simp)], h, ⟨(fun h => by rw [hq] at h; cases h), fun _ => ⟨rfl, h, hn⟩⟩, rfl⟩

/-- dropNulls over a turn that was built. -/
theorem drop20 (d : Tin) (m : Met) (T N : Nat) (pm : Option Addr) (w0 w : World) (a12 a13 a14 a3 : Option Addr) (l12 c12 l13 c13 l14 c14 l3 c3 : Nat) (x : Cont)
    (hN : w0.heap.size ≤ N) (hT : N ≤ T) (hM : ∀ y, pm = some y → N ≤ y.block) (hb : Below N w0 w) (g12 : BRow w0 a12 l12 x.f12) (g13 : BRow w0 a13 l13 x.f13) (g14 : BRow w0 a14 l14 x.f14) (g3 : d.p15 = none ∨ BRow w0 a3 l3 x.fm)
    (hB : Built w d m T pm (.slice a12 l12 c12) (.slice a13 l13 c13) (.slice a14 l14 c14) (.slice a3 l3 c3)) :
    Calls Try.prog 20 #[.pointer (some ⟨T, 0, none⟩)] w fun e w' => e = .returned (.tuple #[]) ∧ Built w' d m T pm (nl l12 x.f12 a12 c12) (nl l13 x.f13 a13 c13) (nl l14 x.f14 a14 c14) (nl l3 x.fm a3 c3) ∧ Below N w0 w' := by
  rcases hB.m with ⟨h15, rfl⟩ | ⟨M, hn, hMT, rfl, hm⟩
  · refine (drop_none d.s0 d.s1 d.s2 d.s3 d.s5 d.s7 d.n4 d.n6 d.p8 d.p9 d.p10 d.p11 a12 a13 a14 l12 l13 l14 c12 c13 c14 x.f12 x.f13 x.f14 _ _ _ T N w0 w hN hT hb g12 g13 g14 rfl rfl rfl hB.t).mono ?_
    rintro e w' ⟨he, ht, hb'⟩
    exact ⟨he, ⟨ht, .inl ⟨h15, rfl⟩⟩, hb'⟩
  · have g3' : BRow w0 a3 l3 x.fm := by
      rcases g3 with h | h
      · rw [h] at hn; cases hn
      · exact h
    refine (drop_some d.s0 d.s1 d.s2 d.s3 d.s5 d.s7 d.n4 d.n6 d.p8 d.p9 d.p10 d.p11 a12 a13 a14 l12 l13 l14 c12 c13 c14 x.f12 x.f13 x.f14 _ _ _ T N w0 w M m.s0 m.s1 m.p2 a3 l3 c3 x.fm _ hN hT hb g12 g13 g14 rfl rfl rfl hB.t (hM _ rfl) hMT g3' rfl hm).mono ?_
    rintro e w' ⟨he, ht, hm', hb'⟩
    exact ⟨he, ⟨ht, .inr ⟨M, hn, hMT, rfl, hm'⟩⟩, hb'⟩

/-- turn.ZZdropNulls. -/
theorem drop16 {T : Nat} {w : World} {R : Ending → World → Prop} (h : Calls Try.prog 20 #[.pointer (some ⟨T, 0, none⟩)] w fun e w' => e = .returned (.tuple #[]) ∧ R e w') : Calls Try.prog 16 #[.pointer (some ⟨T, 0, none⟩)] w fun e w' => e = .returned (.tuple #[]) ∧ R e w' := by
  have H := hid h
  clear h
  go_enter Try.func16, Try.ntmps16
  go_wp2_with fail
  refine H.out.mono ?_
  rintro e w' ⟨rfl, hR⟩
  have HR := hid hR
  clear hR H
  go_wp2
  go_end0
  exact ⟨rfl, HR.out⟩

/-- zzFrameAfterDrop over a turn that was built. -/
theorem frame17 (d0 d : Tin) (m0 m : Met) (x : Cont) (T : Nat) (pm : Option Addr) (w : World) (y12 y13 y14 y3 : Option Addr) (k12 z12 k13 z13 k14 z14 k3 z3 : Nat)
    (hg : Good w d0 m0 x) (hl : Lens d0 m0) (hs : Same d0 m0 d m) (hB : Built w d m T pm (.slice y12 k12 z12) (.slice y13 k13 z13) (.slice y14 k14 z14) (.slice y3 k3 z3)) (hd : PMet w d.p15 m x.fm)
    (q12 : Drop w d0.a12 d0.l12 x.f12 y12 k12) (q13 : Drop w d0.a13 d0.l13 x.f13 y13 k13) (q14 : Drop w d0.a14 d0.l14 x.f14 y14 k14) (q3 : d.p15 = none ∨ Drop w m0.a3 m0.l3 x.fm y3 k3) :
    Calls Try.prog 17 #[.pointer (some ⟨T, 0, none⟩), .agg d0.cells, .agg d.cells, .pointer pm] w fun e w' => e = .returned (.bool true) ∧ Below w.heap.size w w' := by
  obtain ⟨g8, g9, g10, g11, g12, g13, g14, g15⟩ := hg
  obtain ⟨k12', k13', k14', k15'⟩ := hl
  obtain ⟨s0, s1, s2, s3, n4, s5, n6, s7, p8, p9, p10, p11, a12, l12, c12, a13, l13, c13, a14, l14, c14, p15⟩ := d
  obtain ⟨s0', s1', s2', s3', n4', s5', n6', s7', i8, i9, i10, i11, a12', l12', c12', a13', l13', c13', a14', l14', c14', i15⟩ := d0
  obtain ⟨ms0, ms1, mp, ma, ml, mc⟩ := m
  obtain ⟨ms0', ms1', mp', ma', ml', mc'⟩ := m0
  obtain ⟨e0, e1, e2, e3, e4, e5, e6, e7, l12e, l13e, l14e, n12, n13, n14, n15, me0, me1, me3, mn⟩ := hs
  dsimp only [Tin.cells] at *
  subst e0 e1 e2 e3 e4 e5 e6 e7 l12e l13e l14e me0 me1 me3
  rcases hB.m with ⟨h15, rfl⟩ | ⟨M, hn, hMT, rfl, hm⟩
  · dsimp only at h15
    subst h15
    obtain rfl : i15 = none := by simpa using n15.symm
    exact frame_none _ _ _ _ _ _ _ _ _ _ _ _ _ _ _ _ _ _ _ _ _ _ _ _ _ _ _ _ _ _ _ _ _ _ _ _ _ _ _ _ _ _ _ T w k12' k13' k14' g12 g13 g14 q12 q13 q14 hB.t
  · dsimp only at hn
    rcases hd with h | ⟨bb, ob, rfl, hmb, _, _⟩
    · rw [h] at hn; cases hn
    rcases g15 with h | ⟨bi, oi, rfl, hmi, _, hri⟩
    · rw [h] at n15; cases n15
    have q3' := q3.resolve_left (by simp)
    have k15 := k15'.resolve_left (by simp)
    exact frame_some _ _ _ _ _ _ _ _ _ _ _ _ _ _ _ _ _ _ _ _ _ _ _ _ _ _ _ _ _ _ _ _ _ _ _ _ _ _ _ _ _ _ _ T w M bi oi bb ob _ _ _ _ _ _ _ _ _ _ _ _ _ k12' k13' k14' g12 g13 g14 q12 q13 q14 hB.t k15 hri q3' hm hmi hmb

end Go.Proofs.Qxb6605908a.Dn
