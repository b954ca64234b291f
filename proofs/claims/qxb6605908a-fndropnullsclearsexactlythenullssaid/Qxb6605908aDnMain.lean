/-
  THE WALK of FnDropNullsClearsExactlyTheNulls (4).
-/
import Derived.Test.Qxb6605908aDnMainA
import Derived.Test.Qxb6605908aDnTurn
import Derived.Test.Qxb6605908aDnTurnB
import Derived.Test.Qxb6605908aDnClone
import Derived.Test.Qxb6605908aDnLaws
import Derived.Deep.DeepCutAuto
namespace Go.Proofs.Qxb6605908a.Dn
open Go.RowKit

theorem cloneTurn (d : Tin) (m : Met) (x : Cont) (w : World) (h : Good w d m x) (hl : Lens d m) :
    Calls Try.prog 14 #[.agg d.cells] w fun e w' => ∃ d' m', e = .returned (.agg d'.cells) ∧ Good w' d' m' x ∧ Same d m d' m' ∧ Fresh w.heap.size d' m' ∧ Below w.heap.size w w' := by
  obtain ⟨g8, g9, g10, g11, g12, g13, g14, g15⟩ := h
  obtain ⟨k12, k13, k14, k15⟩ := hl
  cases d
  cases x
  exact cloneTurn_some _ _ _ _ _ _ _ _ _ _ _ _ _ _ _ _ _ _ _ _ _ _ _ _ _ _ _ _ _ k12 k13 k14 k15 g8 g9 g10 g11 g12 g13 g14 g15

theorem Built.below {w w' : World} {d : Tin} {m : Met} {T : Nat} {pm : Option Addr} {x12 x13 x14 x3 : Value} (h : Built w d m T pm x12 x13 x14 x3) (hb : Below w.heap.size w w') : Built w' d m T pm x12 x13 x14 x3 := by
  refine ⟨(hb.block _ (blk_lt h.t)).trans h.t, ?_⟩
  rcases h.m with h0 | ⟨M, h1, h2, h3, h4⟩
  · exact .inl h0
  · exact .inr ⟨M, h1, h2, h3, (hb.block _ (blk_lt h4)).trans h4⟩

set_option maxRecDepth 100000 in
set_option maxHeartbeats 8000000 in
theorem walk (d : Tin) (m : Met) (x : Cont) (w : World) (h : Good w d m x) :
    Calls Try.prog 4 #[.agg d.cells] w fun e w' => e = .returned (.bool true) ∧ Below w.heap.size w w' := by
  have C1 := hid (bytes_any d m x (w.alloc (.cells d.cells 36)) (h.below (Nat.le_refl _) (low _ _)))
  have HG := hid h
  clear h
  have B1 := hid (blk_new w (.cells d.cells 36))
  go_enter Try.func4, Try.ntmps4
  go_wp2_with (refine wpList_load36 _ rfl (.tmp 1) rfl w.heap.size 36 d.cells rfl B1.out (size16 _) ?_)
  refine C1.out.mono ?_
  rintro e w2 ⟨⟨r, rfl, hsm⟩, hb2⟩
  have B2 : w2.heap[w.heap.size]? = some (.cells d.cells 36 (0, 0)) := (hb2.block _ (by simp)).trans (blk_new _ _)
  have bl2 : Below w.heap.size w w2 := (low _ _).trans (hb2.mono (by simp))
  have hs2 : w.heap.size < w2.heap.size := blk_lt B2
  clear C1 hb2
  cases r with
  | false =>
    have BL := hid bl2
    clear bl2 B2
    go_wp2
    go_ret
    exact ⟨rfl, BL.out⟩
  | true =>
    have HS := hid (hsm rfl)
    clear hsm
    have C2 := hid (turnBytes_any d m x w2 (HG.out.below (Nat.le_refl _) bl2) HS.out)
    replace B2 := hid B2
    replace bl2 := hid bl2
    go_wp2_with (refine wpList_load36 _ rfl (.tmp 1) rfl w.heap.size 36 d.cells rfl B2.out (size16 _) ?_)
    refine C2.out.mono ?_
    rintro e w3 ⟨⟨z, rfl⟩, hb3⟩
    clear C2
    have B3 : w3.heap[w.heap.size]? = some (.cells d.cells 36 (0, 0)) := (hb3.block _ hs2).trans B2.out
    have bl3 : Below w.heap.size w w3 := bl2.out.trans (hb3.mono bl2.out.size)
    have hs3 : w.heap.size < w3.heap.size := blk_lt B3
    clear hb3 B2 bl2 hs2
    replace bl3 := hid bl3
    by_cases hz : z < 0
    · clear B3
      go_wp2
      go_ret
      exact ⟨rfl, bl3.out⟩
    · have C3 := hid (cloneTurn d m x w3 (HG.out.below (Nat.le_refl _) bl3.out) HS.out.lens)
      replace B3 := hid B3
      go_wp2_with (refine wpList_load36 _ rfl (.tmp 1) rfl w.heap.size 36 d.cells rfl B3.out (size16 _) ?_)
      refine C3.out.mono ?_
      rintro e w4 ⟨d1, m1, rfl, hg1, hsm1, hf1, hb4⟩
      clear C3
      have B4 : w4.heap[w.heap.size]? = some (.cells d.cells 36 (0, 0)) := (hb4.block _ hs3).trans B3.out
      replace hg1 := hid hg1
      replace hsm1 := hid hsm1
      replace hf1 := hid hf1
      replace B4 := hid B4
      replace hb4 := hid hb4
      go_upto_region 6 with (refine wpList_store36 _ rfl (.tmp 1) (.tmp 13) rfl w.heap.size 36 d.cells d1.cells rfl rfl B4.out (size16 _) (size16 _) (one16 _) ?_)
      have hg5 : Good (w4.setRow w.heap.size d1.cells) d1 m1 x := hg1.out.keep hf1.out hs3 (row_kept (Nat.le_refl _))
      have B5 : (w4.setRow w.heap.size d1.cells).heap[w.heap.size]? = some (.cells d1.cells 36 (0, 0)) := row_at B4.out
      have bl5 : Below w.heap.size w (w4.setRow w.heap.size d1.cells) := below_setRow (bl3.out.trans (hb4.out.mono bl3.out.size)) (Nat.le_refl _) _
      clear hg1 hf1 B4 hb4 B3 bl3 hz
      generalize w4.setRow w.heap.size d1.cells = w5 at hg5 B5 bl5 ⊢
      have hs5 : w.heap.size < w5.heap.size := blk_lt B5
      have HL1 := hid (HS.out.lens.same hsm1.out)
      have C5 := hid (cloneTurn d1 m1 x w5 hg5 HL1.out)
      replace B5 := hid B5
      replace hg5 := hid hg5
      replace bl5 := hid bl5
      go_wp2_with (refine wpList_load36 _ rfl (.tmp 1) rfl w.heap.size 36 d1.cells rfl B5.out (size16 _) ?_)
      refine C5.out.mono ?_
      rintro e w6 ⟨d2, m2, rfl, hg6, hsm2, hf2, hb6⟩
      clear C5
      have C7 := hid (build_any d2 m2 x.fm ((w6.alloc (.cells zeroT 36)).setRow w6.heap.size d2.cells) (hg6.g15.below (Nat.le_refl _) (below_setRow (low _ _) (Nat.le_refl _) _)))
      have hg6a := hid (hg5.out.below (Nat.le_refl _) hb6)
      have B6 := hid ((hb6.block _ hs5).trans B5.out)
      have bl6 := hid (bl5.out.trans (hb6.mono bl5.out.size))
      replace hg6 := hid hg6
      replace hsm2 := hid hsm2
      clear hf2 hb6
      have D6 := hid (row_at (xs := d2.cells) (blk_new w6 (.cells zeroT 36)))
      go_wp2_with (first | (refine wpList_store36 _ rfl (.tmp 3) (.tmp 15) rfl w6.heap.size 36 zeroT d2.cells rfl rfl (blk_new w6 (.cells zeroT 36)) rfl (size16 _) (one16 _) ?_) | (refine wpList_load36 _ rfl (.tmp 3) rfl w6.heap.size 36 d2.cells rfl D6.out (size16 _) ?_))
      refine C7.out.mono ?_
      rintro e w8 ⟨T, pm, rfl, hT, hPm, hBu, hb8⟩
      clear C7
      have D7 : ((w6.alloc (.cells zeroT 36)).setRow w6.heap.size d2.cells).heap[w6.heap.size]? = some (.cells d2.cells 36 (0, 0)) := row_at (blk_new _ _)
      have B7 : ((w6.alloc (.cells zeroT 36)).setRow w6.heap.size d2.cells).heap[w.heap.size]? = some (.cells d1.cells 36 (0, 0)) := (row_ne (by have := blk_lt B6.out; omega)).trans (blk_alloc B6.out)
      have hg7 : Good ((w6.alloc (.cells zeroT 36)).setRow w6.heap.size d2.cells) d2 m2 x := hg6.out.below (Nat.le_refl _) (below_setRow (low _ _) (Nat.le_refl _) _)
      have hg7a : Good ((w6.alloc (.cells zeroT 36)).setRow w6.heap.size d2.cells) d1 m1 x := hg6a.out.below (Nat.le_refl _) (below_setRow (low _ _) (Nat.le_refl _) _)
      have bl7 : Below w.heap.size w ((w6.alloc (.cells zeroT 36)).setRow w6.heap.size d2.cells) := below_setRow (bl6.out.alloc bl6.out.size _) bl6.out.size _
      generalize (w6.alloc (.cells zeroT 36)).setRow w6.heap.size d2.cells = w7 at D7 B7 hg7 hg7a bl7 hT hPm hb8 ⊢
      clear D6
      have hb67 := blk_lt D7
      have hb07 := blk_lt B7
      have g3 : d2.p15 = none ∨ BRow w7 m2.a3 m2.l3 x.fm := by
        rcases hg7.g15 with h | ⟨_, _, _, _, _, h⟩
        · exact .inl h
        · exact .inr h
      have t15 : w8.cell? ⟨T, 15, none⟩ = some (.pointer pm) := (blk_cell hBu.t 15).trans rfl
      have C9 := hid (drop16 (drop20 d2 m2 T w7.heap.size pm w7 w8 d2.a12 d2.a13 d2.a14 m2.a3 d2.l12 d2.c12 d2.l13 d2.c13 d2.l14 d2.c14 m2.l3 m2.c3 x (Nat.le_refl _) hT hPm hb8 hg7.g12 hg7.g13 hg7.g14 g3 hBu))
      replace D7 := hid D7
      replace B7 := hid B7
      replace hg7 := hid hg7
      replace hg7a := hid hg7a
      replace bl7 := hid bl7
      replace g3 := hid g3
      replace hT := hid hT
      replace hPm := hid hPm
      clear hBu hb8 hg6 hg6a B6 bl6 B5 bl5 hg5
      go_wp2_with fail
      refine C9.out.mono ?_
      rintro e w9 ⟨rfl, hB9, hb9⟩
      clear C9 t15
      obtain ⟨y12, k12, z12, F12⟩ := field_of (c := d2.c12) hg7.out.g12 hsm2.out.n12
      obtain ⟨y13, k13, z13, F13⟩ := field_of (c := d2.c13) hg7.out.g13 hsm2.out.n13
      obtain ⟨y14, k14, z14, F14⟩ := field_of (c := d2.c14) hg7.out.g14 hsm2.out.n14
      obtain ⟨y3, k3, z3, hv3, hr3, hd3, ha3⟩ : ∃ y3 k3 z3, nl m2.l3 x.fm m2.a3 m2.c3 = .slice y3 k3 z3 ∧ (d2.p15 = none ∨ BRow w7 y3 k3 x.fm) ∧ (d2.p15 = none ∨ Drop w7 m1.a3 m2.l3 x.fm y3 k3) ∧ nl k3 x.fm y3 z3 = nl m2.l3 x.fm m2.a3 m2.c3 := by
        rcases g3.out with h | h
        · by_cases hq : isNull m2.l3 x.fm = true
          · exact ⟨none, 0, 0, by rw [nl, if_pos hq], .inl h, .inl h, by rw [nl, nl, if_pos hq]; simp⟩
          · exact ⟨m2.a3, m2.l3, m2.c3, by rw [nl, if_neg hq], .inl h, .inl h, rfl⟩
        · obtain ⟨y3, k3, z3, F3⟩ := field_of (c := m2.c3) h hsm2.out.mn
          exact ⟨y3, k3, z3, F3.val, .inr F3.row, .inr F3.drop, F3.again⟩
      have q12 := F12.drop
      have q13 := F13.drop
      have q14 := F14.drop
      rw [hsm2.out.l12] at q12
      rw [hsm2.out.l13] at q13
      rw [hsm2.out.l14] at q14
      rw [hsm2.out.m3] at hd3
      rw [F12.val, F13.val, F14.val, hv3] at hB9
      have B9 : w9.heap[w.heap.size]? = some (.cells d1.cells 36 (0, 0)) := (hb9.block _ hb07).trans B7.out
      have D9 : w9.heap[w6.heap.size]? = some (.cells d2.cells 36 (0, 0)) := (hb9.block _ hb67).trans D7.out
      have FR := hid (fun (wz : World) (hz : Below w7.heap.size w7 wz) (hBz : Built wz d2 m2 T pm (.slice y12 k12 z12) (.slice y13 k13 z13) (.slice y14 k14 z14) (.slice y3 k3 z3)) => frame17 d1 d2 m1 m2 x T pm wz y12 y13 y14 y3 k12 z12 k13 z13 k14 z14 k3 z3 (hg7a.out.below (Nat.le_refl _) hz) HL1.out hsm2.out hBz (hg7.out.g15.below (Nat.le_refl _) hz) (q12.below (Nat.le_refl _) hz) (q13.below (Nat.le_refl _) hz) (q14.below (Nat.le_refl _) hz) (hd3.imp id (fun h => h.below (Nat.le_refl _) hz)))
      have DR := hid (fun (wz : World) (hz : Below w7.heap.size w7 wz) (hBz : Built wz d2 m2 T pm (.slice y12 k12 z12) (.slice y13 k13 z13) (.slice y14 k14 z14) (.slice y3 k3 z3)) => drop16 (drop20 d2 m2 T w7.heap.size pm w7 wz y12 y13 y14 y3 k12 z12 k13 z13 k14 z14 k3 z3 x (Nat.le_refl _) hT.out hPm.out hz F12.row F13.row F14.row hr3 hBz))
      have A12 : nl k12 x.f12 y12 z12 = .slice y12 k12 z12 := F12.again.trans F12.val
      have A13 : nl k13 x.f13 y13 z13 = .slice y13 k13 z13 := F13.again.trans F13.val
      have A14 : nl k14 x.f14 y14 z14 = .slice y14 k14 z14 := F14.again.trans F14.val
      have A3 : nl k3 x.fm y3 z3 = .slice y3 k3 z3 := ha3.trans hv3
      replace A12 := hid A12
      replace A13 := hid A13
      replace A14 := hid A14
      replace A3 := hid A3
      clear F12 F13 F14 hv3 hr3 hd3 ha3 q12 q13 q14
      have C10 := hid (FR.out w9 hb9 hB9)
      have hs9 := hid (blk_lt D9)
      have hs9' := hid (blk_lt B9)
      replace B9 := hid B9
      replace D9 := hid D9
      replace hB9 := hid hB9
      replace hb9 := hid hb9
      go_wp2_with (first | (refine wpList_load36 _ rfl (.tmp 1) rfl w.heap.size 36 d1.cells rfl B9.out (size16 _) ?_) | (refine wpList_load36 _ rfl (.tmp 3) rfl w6.heap.size 36 d2.cells rfl D9.out (size16 _) ?_))
      refine C10.out.mono ?_
      rintro e w10 ⟨rfl, hb10⟩
      clear C10
      have hz10 : Below w7.heap.size w7 w10 := hb9.out.trans (hb10.mono hb9.out.size)
      have C11 := hid (DR.out w10 hz10 (hB9.out.below hb10))
      have B10 := hid ((hb10.block _ hs9'.out).trans B9.out)
      have D10 := hid ((hb10.block _ hs9.out).trans D9.out)
      clear hb10 hz10 B9 D9 hB9 hb9 DR
      go_wp2_with fail
      refine C11.out.mono ?_
      rintro e w11 ⟨rfl, hB11, hb11⟩
      clear C11
      rw [A12.out, A13.out, A14.out, A3.out] at hB11
      have B11 : w11.heap[w.heap.size]? = some (.cells d1.cells 36 (0, 0)) := (hb11.block _ hb07).trans B7.out
      have D11 : w11.heap[w6.heap.size]? = some (.cells d2.cells 36 (0, 0)) := (hb11.block _ hb67).trans D7.out
      have C12 := hid (FR.out w11 hb11 hB11)
      replace hb11 := hid hb11
      replace B11 := hid B11
      replace D11 := hid D11
      clear hB11 FR
      go_wp2_with (first | (refine wpList_load36 _ rfl (.tmp 1) rfl w.heap.size 36 d1.cells rfl B11.out (size16 _) ?_) | (refine wpList_load36 _ rfl (.tmp 3) rfl w6.heap.size 36 d2.cells rfl D11.out (size16 _) ?_))
      refine C12.out.mono ?_
      rintro e w12 ⟨rfl, hb12⟩
      have fin : Below w.heap.size w w12 := (bl7.out.trans (hb11.out.mono bl7.out.size)).trans (hb12.mono (bl7.out.trans (hb11.out.mono bl7.out.size)).size)
      replace fin := hid fin
      clear hb12 C12
      go_wp2
      go_ret
      exact ⟨rfl, fin.out⟩

end Go.Proofs.Qxb6605908a.Dn
