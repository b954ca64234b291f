/-
  (*Turn).dropNulls (20), turn.ZZdropNulls (16).
-/
import Derived.Test.Qxb6605908aDnRaw
import Derived.Lib.SlBytesConst
import Derived.Test.Qxb6605908aDnSame
namespace Go.Proofs.Qxb6605908a.Dn
open Go.RowKit

/-- A raw field behind dropNulls. -/
def nl (l : Nat) (f : Nat → UInt8) (a : Option Addr) (c : Nat) : Value := if isNull l f then .slice none 0 0 else .slice a l c

def nullC : Array Value := #[.int .u8 110, .int .u8 117, .int .u8 108, .int .u8 108]
theorem blk_cellF {w : World} {b : Nat} {xs : Array Value} {t : TypeId} {fz : Nat × Nat} (h : w.heap[b]? = some (.cells xs t fz)) (i : Nat) : w.cell? ⟨b, i, none⟩ = xs[i]? := by
  simp [World.cell?, h]
theorem nullRow (w : World) (o1 : Obj) : BRow ((w.alloc o1).alloc (.cells nullC 5 (4, 5))) (some ⟨w.heap.size + 1, 0, none⟩) 4 nullB := by
  refine ⟨(fun h => by cases h), .inr ⟨w.heap.size + 1, 0, rfl, by simp, fun j hj => ?_⟩⟩
  have h0 := blk_new (w.alloc o1) (.cells nullC 5 (4, 5))
  rw [show (w.alloc o1).heap.size = w.heap.size + 1 by simp] at h0
  rw [blk_cellF h0 (0 + j)]
  match j, hj with
  | 0, _ => rfl
  | 1, _ => rfl
  | 2, _ => rfl
  | 3, _ => rfl
theorem conv_null (w : World) (o1 : Obj) : (convert 33 33 (.slice (some ⟨w.heap.size + 1, 0, none⟩) 4 4)).run Try.prog ((w.alloc o1).alloc (.cells #[.int .u8 110, .int .u8 117, .int .u8 108, .int .u8 108] 5)) = .ok (.slice (some ⟨w.heap.size + 1, 0, none⟩) 4 4) ((w.alloc o1).alloc (.cells #[.int .u8 110, .int .u8 117, .int .u8 108, .int .u8 108] 5 (4, 5))) := by
  have := Lib.run_convert_bytes_const (P := Try.prog) (w.alloc o1) 33 5 nullC 4 4 Try.underlying33 Try.underlying5
  rw [show (w.alloc o1).heap.size = w.heap.size + 1 by simp] at this
  exact this

theorem has70 : (Try.prog.info? 70).isSome = true := by kernel_rfl
theorem cells70 : Try.prog.cellsOf 70 = 4 := by kernel_rfl
theorem run_index_arr {P : Program} (w : World) (t e : TypeId) (n : Nat) (cs : Array Value) (i : Nat) (h : P.underlying t = some (.array n e)) (hi : i < n) {fs} (he : P.underlying e = some (.struct fs)) {ti : TypeInfo} (hti : P.info? e = some ti) :
    (Instr.index t (.agg cs) (.int .i64 (i : Int))).run P w = .ok (.agg (cs.extract (i * P.cellsOf e) (i * P.cellsOf e + P.cellsOf e))) w := by
  have hs : (sizeOf e).run P w = .ok (P.cellsOf e) w := run_sizeOf w hti
  simp [Instr.index, run_underlying h, asIntOf, hi, hs, part, isAgg, run_underlying he]
theorem idx0 (w : World) (c0 c1 c2 c3 c4 c5 c6 c7 c8 c9 c10 c11 c12 c13 c14 c15 : Value) : (Instr.index 71 (.agg #[c0, c1, c2, c3, c4, c5, c6, c7, c8, c9, c10, c11, c12, c13, c14, c15]) (.int .i64 0)).run Try.prog w = .ok (.agg #[c0, c1, c2, c3]) w := by
  obtain ⟨ti, hti⟩ := Option.isSome_iff_exists.1 has70
  have := run_index_arr w 71 70 4 #[c0, c1, c2, c3, c4, c5, c6, c7, c8, c9, c10, c11, c12, c13, c14, c15] 0 Try.underlying71 (by omega) Try.underlying70 hti
  rw [cells70] at this
  exact this
theorem idx1 (w : World) (c0 c1 c2 c3 c4 c5 c6 c7 c8 c9 c10 c11 c12 c13 c14 c15 : Value) : (Instr.index 71 (.agg #[c0, c1, c2, c3, c4, c5, c6, c7, c8, c9, c10, c11, c12, c13, c14, c15]) (.int .i64 1)).run Try.prog w = .ok (.agg #[c4, c5, c6, c7]) w := by
  obtain ⟨ti, hti⟩ := Option.isSome_iff_exists.1 has70
  have := run_index_arr w 71 70 4 #[c0, c1, c2, c3, c4, c5, c6, c7, c8, c9, c10, c11, c12, c13, c14, c15] 1 Try.underlying71 (by omega) Try.underlying70 hti
  rw [cells70] at this
  exact this
theorem idx2 (w : World) (c0 c1 c2 c3 c4 c5 c6 c7 c8 c9 c10 c11 c12 c13 c14 c15 : Value) : (Instr.index 71 (.agg #[c0, c1, c2, c3, c4, c5, c6, c7, c8, c9, c10, c11, c12, c13, c14, c15]) (.int .i64 2)).run Try.prog w = .ok (.agg #[c8, c9, c10, c11]) w := by
  obtain ⟨ti, hti⟩ := Option.isSome_iff_exists.1 has70
  have := run_index_arr w 71 70 4 #[c0, c1, c2, c3, c4, c5, c6, c7, c8, c9, c10, c11, c12, c13, c14, c15] 2 Try.underlying71 (by omega) Try.underlying70 hti
  rw [cells70] at this
  exact this
theorem idx3 (w : World) (c0 c1 c2 c3 c4 c5 c6 c7 c8 c9 c10 c11 c12 c13 c14 c15 : Value) : (Instr.index 71 (.agg #[c0, c1, c2, c3, c4, c5, c6, c7, c8, c9, c10, c11, c12, c13, c14, c15]) (.int .i64 3)).run Try.prog w = .ok (.agg #[c12, c13, c14, c15]) w := by
  obtain ⟨ti, hti⟩ := Option.isSome_iff_exists.1 has70
  have := run_index_arr w 71 70 4 #[c0, c1, c2, c3, c4, c5, c6, c7, c8, c9, c10, c11, c12, c13, c14, c15] 3 Try.underlying71 (by omega) Try.underlying70 hti
  rw [cells70] at this
  exact this
def sel (j k : Nat) (x n : Value) : Value := if j < k then n else x

set_option maxRecDepth 100000 in
set_option maxHeartbeats 8000000 in
theorem drop_none (s0 s1 s2 s3 s5 s7 : ByteArray) (n4 n6 : Int) (p8 p9 p10 p11 a12 a13 a14 : Option Addr) (l12 l13 l14 c12 c13 c14 : Nat) (f12 f13 f14 : Nat → UInt8) (n12 n13 n14 : Value) (T N : Nat) (w0 w : World)
    (hN : w0.heap.size ≤ N) (hT : N ≤ T) (hb : Below N w0 w) (g12 : BRow w0 a12 l12 f12) (g13 : BRow w0 a13 l13 f13) (g14 : BRow w0 a14 l14 f14) (h12 : n12 = nl l12 f12 a12 c12) (h13 : n13 = nl l13 f13 a13 c13) (h14 : n14 = nl l14 f14 a14 c14)
    (ht : w.heap[T]? = some (.cells #[.string s0, .string s1, .string s2, .string s3, .int .i64 n4, .string s5, .int .i64 n6, .string s7, .pointer p8, .pointer p9, .pointer p10, .pointer p11, .slice a12 l12 c12, .slice a13 l13 c13, .slice a14 l14 c14, .pointer none] 48 (0, 0))) :
    Calls Try.prog 20 #[.pointer (some ⟨T, 0, none⟩)] w fun e w' => e = .returned (.tuple #[]) ∧ w'.heap[T]? = some (.cells #[.string s0, .string s1, .string s2, .string s3, .int .i64 n4, .string s5, .int .i64 n6, .string s7, .pointer p8, .pointer p9, .pointer p10, .pointer p11, n12, n13, n14, .pointer none] 48 (0, 0)) ∧ Below N w0 w' := by
  have HC := hid (raw_none T w ((blk_cell ht 15).trans rfl))
  have HT := hid ht
  replace g12 := hid g12
  replace g13 := hid g13
  replace g14 := hid g14
  replace h12 := hid h12
  replace h13 := hid h13
  replace h14 := hid h14
  clear ht
  go_enter Try.func20, Try.ntmps20
  go_wp2_with fail
  refine HC.out.mono ?_
  rintro e w1 ⟨rfl, hb1⟩
  unfold raws
  go_wp2
  go_loopw [6] (fun i wr => ∃ k : Nat, k ≤ 4 ∧ i = .int .i64 k ∧ wr.heap[T]? = some (.cells #[.string s0, .string s1, .string s2, .string s3, .int .i64 n4, .string s5, .int .i64 n6, .string s7, .pointer p8, .pointer p9, .pointer p10, .pointer p11, (sel 0 k (.slice a12 l12 c12) n12), (sel 1 k (.slice a13 l13 c13) n13), (sel 2 k (.slice a14 l14 c14) n14), .pointer none] 48 (0, 0)) ∧ Below N w0 wr) (fun i _ => 4 - (intOf i).toNat)
  case atStart => exact ⟨0, by omega, rfl, (hb1.block _ (blk_lt HT.out)).trans HT.out, hb.trans (hb1.mono (by have := blk_lt HT.out; omega))⟩
  case round =>
    obtain ⟨k, hk, rfl, htr, hbr⟩ := hrel
    have hTr := blk_lt htr
    rcases (show k = 0 ∨ k = 1 ∨ k = 2 ∨ k = 3 ∨ k = 4 by omega) with rfl | rfl | rfl | rfl | rfl
    · have r12 := (g12.out.below hN hbr)
      have x12 : wr.cell? ⟨T, 12, none⟩ = some (.slice a12 l12 c12) := (blk_cell htr 12).trans rfl
      have y12 := blk_free htr 12
      have IX := idx0
      have HTR := hid htr
      have HBR := hid hbr

      clear htr hbr 
      have HE := hid (fun o1 => equal_any a12 l12 c12 f12 (some ⟨wr.heap.size + 1, 0, none⟩) 4 _ ((r12.below (Nat.le_refl _) (low _ o1)).below (Nat.le_refl _) (low _ _)) (nullRow wr o1))
      have KC := conv_null wr
      clear r12
      rcases Bool.eq_false_or_eq_true (isNull l12 f12) with hq | hq
      · rw [hq] at HE
        have e12 : n12 = .slice none 0 0 := h12.out.trans (by rw [nl, if_pos hq])
        replace e12 := hid e12
        clear hq
        go_wp2_with fail
        refine (HE.out _).mono ?_
        rintro e w2 ⟨rfl, rfl⟩
        clear HE KC
        go_wp2
        go_roundw
        case rel =>
          exact ⟨0 + 1, by omega, by go_num, (blk_alloc (blk_alloc (blk_set HTR.out 12 _))).trans (by rw [e12.out]; rfl), ((HBR.out.setCell (show N ≤ (⟨T, 12, none⟩ : Addr).block from hT) _).alloc (by simp; omega) _).alloc (by simp; omega) _⟩
        case measure => simp [intOf]
      · rw [hq] at HE
        have e12 : n12 = .slice a12 l12 c12 := h12.out.trans (by rw [nl, if_neg (by rw [hq]; simp)])
        replace e12 := hid e12
        clear hq
        go_wp2_with fail
        refine (HE.out _).mono ?_
        rintro e w2 ⟨rfl, rfl⟩
        clear HE KC
        go_wp2
        go_roundw
        case rel =>
          exact ⟨0 + 1, by omega, by go_num, (blk_alloc (blk_alloc HTR.out)).trans (by rw [e12.out]; rfl), ((HBR.out.alloc (by omega) _).alloc (by simp; omega) _)⟩
        case measure => simp [intOf]
    · have r13 := (g13.out.below hN hbr)
      have x13 : wr.cell? ⟨T, 13, none⟩ = some (.slice a13 l13 c13) := (blk_cell htr 13).trans rfl
      have y13 := blk_free htr 13
      have IX := idx1
      have HTR := hid htr
      have HBR := hid hbr

      clear htr hbr 
      have HE := hid (fun o1 => equal_any a13 l13 c13 f13 (some ⟨wr.heap.size + 1, 0, none⟩) 4 _ ((r13.below (Nat.le_refl _) (low _ o1)).below (Nat.le_refl _) (low _ _)) (nullRow wr o1))
      have KC := conv_null wr
      clear r13
      rcases Bool.eq_false_or_eq_true (isNull l13 f13) with hq | hq
      · rw [hq] at HE
        have e13 : n13 = .slice none 0 0 := h13.out.trans (by rw [nl, if_pos hq])
        replace e13 := hid e13
        clear hq
        go_wp2_with fail
        refine (HE.out _).mono ?_
        rintro e w2 ⟨rfl, rfl⟩
        clear HE KC
        go_wp2
        go_roundw
        case rel =>
          exact ⟨1 + 1, by omega, by go_num, (blk_alloc (blk_alloc (blk_set HTR.out 13 _))).trans (by rw [e13.out]; rfl), ((HBR.out.setCell (show N ≤ (⟨T, 13, none⟩ : Addr).block from hT) _).alloc (by simp; omega) _).alloc (by simp; omega) _⟩
        case measure => simp [intOf]
      · rw [hq] at HE
        have e13 : n13 = .slice a13 l13 c13 := h13.out.trans (by rw [nl, if_neg (by rw [hq]; simp)])
        replace e13 := hid e13
        clear hq
        go_wp2_with fail
        refine (HE.out _).mono ?_
        rintro e w2 ⟨rfl, rfl⟩
        clear HE KC
        go_wp2
        go_roundw
        case rel =>
          exact ⟨1 + 1, by omega, by go_num, (blk_alloc (blk_alloc HTR.out)).trans (by rw [e13.out]; rfl), ((HBR.out.alloc (by omega) _).alloc (by simp; omega) _)⟩
        case measure => simp [intOf]
    · have r14 := (g14.out.below hN hbr)
      have x14 : wr.cell? ⟨T, 14, none⟩ = some (.slice a14 l14 c14) := (blk_cell htr 14).trans rfl
      have y14 := blk_free htr 14
      have IX := idx2
      have HTR := hid htr
      have HBR := hid hbr

      clear htr hbr 
      have HE := hid (fun o1 => equal_any a14 l14 c14 f14 (some ⟨wr.heap.size + 1, 0, none⟩) 4 _ ((r14.below (Nat.le_refl _) (low _ o1)).below (Nat.le_refl _) (low _ _)) (nullRow wr o1))
      have KC := conv_null wr
      clear r14
      rcases Bool.eq_false_or_eq_true (isNull l14 f14) with hq | hq
      · rw [hq] at HE
        have e14 : n14 = .slice none 0 0 := h14.out.trans (by rw [nl, if_pos hq])
        replace e14 := hid e14
        clear hq
        go_wp2_with fail
        refine (HE.out _).mono ?_
        rintro e w2 ⟨rfl, rfl⟩
        clear HE KC
        go_wp2
        go_roundw
        case rel =>
          exact ⟨2 + 1, by omega, by go_num, (blk_alloc (blk_alloc (blk_set HTR.out 14 _))).trans (by rw [e14.out]; rfl), ((HBR.out.setCell (show N ≤ (⟨T, 14, none⟩ : Addr).block from hT) _).alloc (by simp; omega) _).alloc (by simp; omega) _⟩
        case measure => simp [intOf]
      · rw [hq] at HE
        have e14 : n14 = .slice a14 l14 c14 := h14.out.trans (by rw [nl, if_neg (by rw [hq]; simp)])
        replace e14 := hid e14
        clear hq
        go_wp2_with fail
        refine (HE.out _).mono ?_
        rintro e w2 ⟨rfl, rfl⟩
        clear HE KC
        go_wp2
        go_roundw
        case rel =>
          exact ⟨2 + 1, by omega, by go_num, (blk_alloc (blk_alloc HTR.out)).trans (by rw [e14.out]; rfl), ((HBR.out.alloc (by omega) _).alloc (by simp; omega) _)⟩
        case measure => simp [intOf]
    · have IX := idx3
      have HTR := hid htr
      have HBR := hid hbr
      clear htr hbr
      go_wp2
      go_roundw
      case rel => exact ⟨3 + 1, by omega, by go_num, blk_alloc HTR.out, HBR.out.alloc (by omega) _⟩
      case measure => simp [intOf]
    · go_wp2
      go_end0
      exact ⟨rfl, htr, hbr⟩

set_option maxRecDepth 100000 in
set_option maxHeartbeats 8000000 in
theorem drop_some (s0 s1 s2 s3 s5 s7 : ByteArray) (n4 n6 : Int) (p8 p9 p10 p11 a12 a13 a14 : Option Addr) (l12 l13 l14 c12 c13 c14 : Nat) (f12 f13 f14 : Nat → UInt8) (n12 n13 n14 : Value) (T N : Nat) (w0 w : World) (M : Nat) (m0 m1 : ByteArray) (mp a3 : Option Addr) (l3 c3 : Nat) (f3 : Nat → UInt8) (n3 : Value)
    (hN : w0.heap.size ≤ N) (hT : N ≤ T) (hb : Below N w0 w) (g12 : BRow w0 a12 l12 f12) (g13 : BRow w0 a13 l13 f13) (g14 : BRow w0 a14 l14 f14) (h12 : n12 = nl l12 f12 a12 c12) (h13 : n13 = nl l13 f13 a13 c13) (h14 : n14 = nl l14 f14 a14 c14)
    (ht : w.heap[T]? = some (.cells #[.string s0, .string s1, .string s2, .string s3, .int .i64 n4, .string s5, .int .i64 n6, .string s7, .pointer p8, .pointer p9, .pointer p10, .pointer p11, .slice a12 l12 c12, .slice a13 l13 c13, .slice a14 l14 c14, .pointer (some ⟨M, 0, none⟩)] 48 (0, 0))) (hM : N ≤ M) (hTM : M ≠ T) (g3 : BRow w0 a3 l3 f3) (h3 : n3 = nl l3 f3 a3 c3) (hm : w.heap[M]? = some (.cells #[.string m0, .string m1, .pointer mp, .slice a3 l3 c3] 66 (0, 0))) :
    Calls Try.prog 20 #[.pointer (some ⟨T, 0, none⟩)] w fun e w' => e = .returned (.tuple #[]) ∧ w'.heap[T]? = some (.cells #[.string s0, .string s1, .string s2, .string s3, .int .i64 n4, .string s5, .int .i64 n6, .string s7, .pointer p8, .pointer p9, .pointer p10, .pointer p11, n12, n13, n14, .pointer (some ⟨M, 0, none⟩)] 48 (0, 0)) ∧ w'.heap[M]? = some (.cells #[.string m0, .string m1, .pointer mp, n3] 66 (0, 0)) ∧ Below N w0 w' := by
  have HC := hid (raw_some T M w ((blk_cell ht 15).trans rfl))
  have HT := hid ht
  replace g12 := hid g12
  replace g13 := hid g13
  replace g14 := hid g14
  replace h12 := hid h12
  replace h13 := hid h13
  replace h14 := hid h14
  have HM := hid hm
  replace g3 := hid g3
  replace h3 := hid h3
  clear hm
  clear ht
  go_enter Try.func20, Try.ntmps20
  go_wp2_with fail
  refine HC.out.mono ?_
  rintro e w1 ⟨rfl, hb1⟩
  unfold raws
  go_wp2
  go_loopw [6] (fun i wr => ∃ k : Nat, k ≤ 4 ∧ i = .int .i64 k ∧ wr.heap[T]? = some (.cells #[.string s0, .string s1, .string s2, .string s3, .int .i64 n4, .string s5, .int .i64 n6, .string s7, .pointer p8, .pointer p9, .pointer p10, .pointer p11, (sel 0 k (.slice a12 l12 c12) n12), (sel 1 k (.slice a13 l13 c13) n13), (sel 2 k (.slice a14 l14 c14) n14), .pointer (some ⟨M, 0, none⟩)] 48 (0, 0)) ∧ wr.heap[M]? = some (.cells #[.string m0, .string m1, .pointer mp, (sel 3 k (.slice a3 l3 c3) n3)] 66 (0, 0)) ∧ Below N w0 wr) (fun i _ => 4 - (intOf i).toNat)
  case atStart => exact ⟨0, by omega, rfl, (hb1.block _ (blk_lt HT.out)).trans HT.out, (hb1.block _ (blk_lt HM.out)).trans HM.out, hb.trans (hb1.mono (by have := blk_lt HT.out; omega))⟩
  case round =>
    obtain ⟨k, hk, rfl, htr, hmr, hbr⟩ := hrel
    have hTr := blk_lt htr
    have hMr := blk_lt hmr
    rcases (show k = 0 ∨ k = 1 ∨ k = 2 ∨ k = 3 ∨ k = 4 by omega) with rfl | rfl | rfl | rfl | rfl
    · have r12 := (g12.out.below hN hbr)
      have x12 : wr.cell? ⟨T, 12, none⟩ = some (.slice a12 l12 c12) := (blk_cell htr 12).trans rfl
      have y12 := blk_free htr 12
      have IX := idx0
      have HTR := hid htr
      have HBR := hid hbr
      have HMR := hid hmr
      clear htr hbr hmr
      have HE := hid (fun o1 => equal_any a12 l12 c12 f12 (some ⟨wr.heap.size + 1, 0, none⟩) 4 _ ((r12.below (Nat.le_refl _) (low _ o1)).below (Nat.le_refl _) (low _ _)) (nullRow wr o1))
      have KC := conv_null wr
      clear r12
      rcases Bool.eq_false_or_eq_true (isNull l12 f12) with hq | hq
      · rw [hq] at HE
        have e12 : n12 = .slice none 0 0 := h12.out.trans (by rw [nl, if_pos hq])
        replace e12 := hid e12
        clear hq
        go_wp2_with fail
        refine (HE.out _).mono ?_
        rintro e w2 ⟨rfl, rfl⟩
        clear HE KC
        go_wp2
        go_roundw
        case rel =>
          exact ⟨0 + 1, by omega, by go_num, (blk_alloc (blk_alloc (blk_set HTR.out 12 _))).trans (by rw [e12.out]; rfl), blk_alloc (blk_alloc ((blk_set_ne (Ne.symm hTM) _ _).trans HMR.out)), ((HBR.out.setCell (show N ≤ (⟨T, 12, none⟩ : Addr).block from hT) _).alloc (by simp; omega) _).alloc (by simp; omega) _⟩
        case measure => simp [intOf]
      · rw [hq] at HE
        have e12 : n12 = .slice a12 l12 c12 := h12.out.trans (by rw [nl, if_neg (by rw [hq]; simp)])
        replace e12 := hid e12
        clear hq
        go_wp2_with fail
        refine (HE.out _).mono ?_
        rintro e w2 ⟨rfl, rfl⟩
        clear HE KC
        go_wp2
        go_roundw
        case rel =>
          exact ⟨0 + 1, by omega, by go_num, (blk_alloc (blk_alloc HTR.out)).trans (by rw [e12.out]; rfl), (blk_alloc (blk_alloc HMR.out)), ((HBR.out.alloc (by omega) _).alloc (by simp; omega) _)⟩
        case measure => simp [intOf]
    · have r13 := (g13.out.below hN hbr)
      have x13 : wr.cell? ⟨T, 13, none⟩ = some (.slice a13 l13 c13) := (blk_cell htr 13).trans rfl
      have y13 := blk_free htr 13
      have IX := idx1
      have HTR := hid htr
      have HBR := hid hbr
      have HMR := hid hmr
      clear htr hbr hmr
      have HE := hid (fun o1 => equal_any a13 l13 c13 f13 (some ⟨wr.heap.size + 1, 0, none⟩) 4 _ ((r13.below (Nat.le_refl _) (low _ o1)).below (Nat.le_refl _) (low _ _)) (nullRow wr o1))
      have KC := conv_null wr
      clear r13
      rcases Bool.eq_false_or_eq_true (isNull l13 f13) with hq | hq
      · rw [hq] at HE
        have e13 : n13 = .slice none 0 0 := h13.out.trans (by rw [nl, if_pos hq])
        replace e13 := hid e13
        clear hq
        go_wp2_with fail
        refine (HE.out _).mono ?_
        rintro e w2 ⟨rfl, rfl⟩
        clear HE KC
        go_wp2
        go_roundw
        case rel =>
          exact ⟨1 + 1, by omega, by go_num, (blk_alloc (blk_alloc (blk_set HTR.out 13 _))).trans (by rw [e13.out]; rfl), blk_alloc (blk_alloc ((blk_set_ne (Ne.symm hTM) _ _).trans HMR.out)), ((HBR.out.setCell (show N ≤ (⟨T, 13, none⟩ : Addr).block from hT) _).alloc (by simp; omega) _).alloc (by simp; omega) _⟩
        case measure => simp [intOf]
      · rw [hq] at HE
        have e13 : n13 = .slice a13 l13 c13 := h13.out.trans (by rw [nl, if_neg (by rw [hq]; simp)])
        replace e13 := hid e13
        clear hq
        go_wp2_with fail
        refine (HE.out _).mono ?_
        rintro e w2 ⟨rfl, rfl⟩
        clear HE KC
        go_wp2
        go_roundw
        case rel =>
          exact ⟨1 + 1, by omega, by go_num, (blk_alloc (blk_alloc HTR.out)).trans (by rw [e13.out]; rfl), (blk_alloc (blk_alloc HMR.out)), ((HBR.out.alloc (by omega) _).alloc (by simp; omega) _)⟩
        case measure => simp [intOf]
    · have r14 := (g14.out.below hN hbr)
      have x14 : wr.cell? ⟨T, 14, none⟩ = some (.slice a14 l14 c14) := (blk_cell htr 14).trans rfl
      have y14 := blk_free htr 14
      have IX := idx2
      have HTR := hid htr
      have HBR := hid hbr
      have HMR := hid hmr
      clear htr hbr hmr
      have HE := hid (fun o1 => equal_any a14 l14 c14 f14 (some ⟨wr.heap.size + 1, 0, none⟩) 4 _ ((r14.below (Nat.le_refl _) (low _ o1)).below (Nat.le_refl _) (low _ _)) (nullRow wr o1))
      have KC := conv_null wr
      clear r14
      rcases Bool.eq_false_or_eq_true (isNull l14 f14) with hq | hq
      · rw [hq] at HE
        have e14 : n14 = .slice none 0 0 := h14.out.trans (by rw [nl, if_pos hq])
        replace e14 := hid e14
        clear hq
        go_wp2_with fail
        refine (HE.out _).mono ?_
        rintro e w2 ⟨rfl, rfl⟩
        clear HE KC
        go_wp2
        go_roundw
        case rel =>
          exact ⟨2 + 1, by omega, by go_num, (blk_alloc (blk_alloc (blk_set HTR.out 14 _))).trans (by rw [e14.out]; rfl), blk_alloc (blk_alloc ((blk_set_ne (Ne.symm hTM) _ _).trans HMR.out)), ((HBR.out.setCell (show N ≤ (⟨T, 14, none⟩ : Addr).block from hT) _).alloc (by simp; omega) _).alloc (by simp; omega) _⟩
        case measure => simp [intOf]
      · rw [hq] at HE
        have e14 : n14 = .slice a14 l14 c14 := h14.out.trans (by rw [nl, if_neg (by rw [hq]; simp)])
        replace e14 := hid e14
        clear hq
        go_wp2_with fail
        refine (HE.out _).mono ?_
        rintro e w2 ⟨rfl, rfl⟩
        clear HE KC
        go_wp2
        go_roundw
        case rel =>
          exact ⟨2 + 1, by omega, by go_num, (blk_alloc (blk_alloc HTR.out)).trans (by rw [e14.out]; rfl), (blk_alloc (blk_alloc HMR.out)), ((HBR.out.alloc (by omega) _).alloc (by simp; omega) _)⟩
        case measure => simp [intOf]
    · have r3 := (g3.out.below hN hbr)
      have x3 : wr.cell? ⟨M, 3, none⟩ = some (.slice a3 l3 c3) := (blk_cell hmr 3).trans rfl
      have y3 := blk_free hmr 3
      have IX := idx3
      have HTR := hid htr
      have HBR := hid hbr
      have HMR := hid hmr
      clear htr hbr hmr
      have HE := hid (fun o1 => equal_any a3 l3 c3 f3 (some ⟨wr.heap.size + 1, 0, none⟩) 4 _ ((r3.below (Nat.le_refl _) (low _ o1)).below (Nat.le_refl _) (low _ _)) (nullRow wr o1))
      have KC := conv_null wr
      clear r3
      rcases Bool.eq_false_or_eq_true (isNull l3 f3) with hq | hq
      · rw [hq] at HE
        have e3 : n3 = .slice none 0 0 := h3.out.trans (by rw [nl, if_pos hq])
        replace e3 := hid e3
        clear hq
        go_wp2_with fail
        refine (HE.out _).mono ?_
        rintro e w2 ⟨rfl, rfl⟩
        clear HE KC
        go_wp2
        go_roundw
        case rel =>
          exact ⟨3 + 1, by omega, by go_num, blk_alloc (blk_alloc ((blk_set_ne hTM _ _).trans HTR.out)), (blk_alloc (blk_alloc (blk_set HMR.out 3 _))).trans (by rw [e3.out]; rfl), ((HBR.out.setCell (show N ≤ (⟨M, 3, none⟩ : Addr).block from hM) _).alloc (by simp; omega) _).alloc (by simp; omega) _⟩
        case measure => simp [intOf]
      · rw [hq] at HE
        have e3 : n3 = .slice a3 l3 c3 := h3.out.trans (by rw [nl, if_neg (by rw [hq]; simp)])
        replace e3 := hid e3
        clear hq
        go_wp2_with fail
        refine (HE.out _).mono ?_
        rintro e w2 ⟨rfl, rfl⟩
        clear HE KC
        go_wp2
        go_roundw
        case rel =>
          exact ⟨3 + 1, by omega, by go_num, blk_alloc (blk_alloc HTR.out), (blk_alloc (blk_alloc HMR.out)).trans (by rw [e3.out]; rfl), ((HBR.out.alloc (by omega) _).alloc (by simp; omega) _)⟩
        case measure => simp [intOf]
    · go_wp2
      go_end0
      exact ⟨rfl, htr, hmr, hbr⟩

end Go.Proofs.Qxb6605908a.Dn
