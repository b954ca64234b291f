/-
  THE WALK of zzBondModel (6) and FnBondCodeIsIb26AndZeroPaddedDecimal (3).
-/
import Derived.Test.Qxb6605807aFmtBcCode
import Derived.Lib.ItoaLen
import Derived.Laws.BytesArg
namespace Go.Proofs.Qxb6605807aFmt.Bc
open Go.RowKit Go.Kit Go.Extern.Stop Go.Stop Go.Extern

theorem hid {p : Prop} (h : p) : Hid p := h

/-- A byte as a cell. -/
def cellB (b : UInt8) : Value := .int .u8 b.toNat

/-- The buffer: 32 cells, from n on the bytes ds. -/
def BufAt (w : World) (g n : Nat) (ds : List UInt8) : Prop :=
  ∃ cur : Array Value, w.heap[g]? = some (.cells cur 28 (0, 0)) ∧ cur.size = 32 ∧ n + ds.length = 32 ∧ cur.toList.drop n = ds.map cellB

theorem buf_new (w : World) (cs : Array Value) (h : cs.size = 32) : BufAt (w.alloc (.cells cs 28)) w.heap.size 32 [] :=
  ⟨cs, heap_alloc_new w _, h, rfl, by simp [h]⟩

theorem BufAt.cell {w : World} {g n : Nat} {ds : List UInt8} (h : BufAt w g n ds) {j : Nat} (hj : j < 32) : ∃ v, w.cell? ⟨g, j, none⟩ = some v := by
  obtain ⟨cur, hg, hs, _⟩ := h
  exact ⟨cur[j], by rw [cell_of_row w g j cur 28 (0, 0) hg]; simp [hs, hj]⟩
theorem BufAt.free {w : World} {g n : Nat} {ds : List UInt8} (h : BufAt w g n ds) (j : Nat) : w.frozen? ⟨g, j, none⟩ = false := by
  obtain ⟨cur, hg, _⟩ := h
  exact frozen_of_row w g j cur 28 hg
theorem BufAt.lt {w : World} {g n : Nat} {ds : List UInt8} (h : BufAt w g n ds) : g < w.heap.size := by
  obtain ⟨cur, hg, _⟩ := h
  exact (Array.getElem?_eq_some_iff.1 hg).1

theorem BufAt.store {w : World} {g n : Nat} {ds : List UInt8} (h : BufAt w g (n + 1) ds) (b : UInt8) : BufAt (w.setCell ⟨g, n, none⟩ (cellB b)) g n (b :: ds) := by
  obtain ⟨cur, hg, hs, hn, hd⟩ := h
  refine ⟨cur.setIfInBounds n (cellB b), heap_setCell_same w g n cur 28 _ hg, by simpa using hs, by simp; omega, ?_⟩
  rw [Array.toList_setIfInBounds]
  have hl : n < cur.toList.length := by simp [hs]; omega
  rw [List.map_cons, ← hd, List.drop_eq_getElem_cons (by simpa using hl)]
  simp [List.drop_set]

theorem BufAt.bytes {w : World} {g n : Nat} {ds : List UInt8} (h : BufAt w g n ds) (j : Nat) (hj : j < 32 - n) : w.cell? ⟨g, n + j, none⟩ = some (.int .u8 ((ds.map fun b => ((b.toNat : Nat) : Int)).getD j 0)) := by
  obtain ⟨cur, hg, hs, hn, hd⟩ := h
  rw [cell_of_row w g (n + j) cur 28 (0, 0) hg]
  have h1 : (cur.toList.drop n)[j]? = cur[n + j]? := by simp
  rw [← h1, hd]
  have hj' : j < ds.length := by omega
  simp [hj', cellB]

theorem str_bytes (ds : List UInt8) : strOfNums (ds.map fun b => ((b.toNat : Nat) : Int)) = ⟨ds.toArray⟩ := by
  unfold strOfNums
  rw [List.map_map]
  have : ((fun n : Int => UInt8.ofNat n.toNat) ∘ fun b : UInt8 => ((b.toNat : Nat) : Int)) = id := by
    funext b
    simp
  rw [this]
  simp

theorem dec_small {u : Nat} (h : u < 10) : Lib.decDigits u = [UInt8.ofNat (48 + u)] := Lib.decDigits_one h
theorem dec_big {u : Nat} (h : ¬ u < 10) : Lib.decDigits u = Lib.decDigits (u / 10) ++ [UInt8.ofNat (48 + u % 10)] := by rw [Lib.decDigits, dif_neg h]

/-- One digit as the walk stores it. -/
def dgt (u : Nat) : UInt8 := UInt8.ofNat (48 + u % 10)
theorem dgt_cell (u : Nat) : cellB (dgt u) = .int .u8 (48 + (u : Int) % 10) := by
  have : u % 10 < 10 := Nat.mod_lt _ (by omega)
  simp only [cellB, dgt, UInt8.toNat_ofNat']
  congr 1
  omega
theorem zero_cell : cellB 48 = .int .u8 48 := rfl
theorem sign_cell : cellB 45 = .int .u8 45 := rfl

theorem Joins_append (a b : ByteArray) : (a ++ b).data.toList = a.data.toList ++ b.data.toList := by
  rw [ByteArray.data_append, Array.toList_append]
theorem bytes_inj {a b : ByteArray} (h : a.data.toList = b.data.toList) : a = b := by
  cases a
  cases b
  simp at h
  rw [h]

theorem slice_buf (g n : Nat) (hn : n < 32) (w : World) : (Instr.sliceAt 28 (.pointer (some ⟨g, 0, none⟩)) (some (.int .i64 n)) none none).run Tryf.prog w = .ok (.slice (some ⟨g, n, none⟩) (32 - n) (32 - n)) w := by
  have hl : Tryf.prog.arrayLen 28 = 32 := by kernel_rfl
  rw [run_sliceAt_array_l w 28 ⟨g, 0, none⟩ (by kernel_rfl) .i64 n (by omega) (by rw [hl]; omega)]
  have hs : (sizeOf (Tryf.prog.elem 28)).run Tryf.prog w = .ok 1 w := by kernel_rfl
  rw [hs, hl]
  have h : ¬ 32 = n := by omega
  simp [Result.andThen, slicedAt, h, Addr.add]
  omega

theorem conv_buf {w : World} {g n : Nat} {ds : List UInt8} (h : BufAt w g n ds) : (convert 29 9 (.slice (some ⟨g, n, none⟩) (32 - n) (32 - n))).run Tryf.prog w = .ok (.string ⟨ds.toArray⟩) w := by
  have hn : n + ds.length = 32 := by obtain ⟨_, _, _, h, _⟩ := h; exact h
  have := run_convert_bytes_arg (P := Tryf.prog) w 29 5 Tryf.underlying29 Tryf.underlying5 g n (32 - n) (32 - n) (ds.map fun b => ((b.toNat : Nat) : Int)) (by simp; omega) (fun j hj => h.bytes j hj) 9 Tryf.underlying9
  rw [str_bytes] at this
  exact this

/-- The head and the bytes are the code. -/
theorem code_of (i : Int) (ds : List UInt8) (h : ds = FmtText.zeros 5 i) : (⟨#[105, 98, 50, 54]⟩ : ByteArray) ++ ⟨ds.toArray⟩ = code i := by
  apply bytes_inj
  rw [Joins_append]
  simp [code, codeText, h]

set_option maxRecDepth 100000 in
set_option maxHeartbeats 1000000 in
theorem model_pos (U : Nat) (hU : (U : Int) ≤ 9223372036854775807) (w : World) :
    Calls Tryf.prog 6 #[.int .i64 U] w fun e w' => e = .returned (.string (code U)) ∧ Below w.heap.size w w' := by
  have hlen : (Lib.decDigits U).length ≤ 20 := by rw [Lib.decDigits_length]; exact Lib.nDigits_le20 U (by omega)
  have HLEN := hid hlen
  clear hlen
  have hneg : ¬ (U : Int) < 0 := by omega
  go_enter Tryf.func6, Tryf.ntmps6
  go_wp2
  go_loopw [4, 6] (fun z i wr => ∃ (u n : Nat) (ds : List UInt8), z = .int .u64 u ∧ i = .int .i64 n ∧ (u : Int) ≤ 9223372036854775808 ∧ BufAt wr w.heap.size n ds ∧ Lib.decDigits u ++ ds = Lib.decDigits U ∧ Below w.heap.size w wr) (fun z _ _ => (intOf z).toNat)
  case atStart => exact ⟨U, 32, [], rfl, rfl, by omega, buf_new w _ rfl, by simp, (Below.refl _ _).alloc (Nat.le_refl _) _⟩
  case round =>
    obtain ⟨u, n, ds, rfl, rfl, hu, hbuf, hdec, hbr⟩ := hrel
    have HB := hid hbuf
    have HD := hid hdec
    have hlen2 := congrArg List.length hdec
    rw [List.length_append] at hlen2
    have hpos : 1 ≤ (Lib.decDigits u).length := by rw [Lib.decDigits_length]; exact Lib.nDigits_pos u
    have hnds : n + ds.length = 32 := by obtain ⟨_, _, _, h, _⟩ := hbuf; exact h
    have h20 := HLEN.out
    obtain ⟨n', rfl⟩ : ∃ n', n = n' + 1 := ⟨n - 1, by omega⟩
    have hn31 : n' < 32 := by omega
    clear hbuf hdec hlen2 hpos hnds h20
    obtain ⟨v0, c0⟩ := HB.out.cell hn31
    have f0 := HB.out.free n'
    have hni : (n' : Int) < 32 := by omega
    have HS := HB.out.store (dgt u)
    rw [dgt_cell] at HS
    have HB1 := hid HS
    clear HS
    have hb1 : Below w.heap.size w (wr.setCell ⟨w.heap.size, n', none⟩ (.int .u8 (48 + (u : Int) % 10))) := hbr.setCell (Nat.le_refl _) _
    by_cases h10 : u < 10
    · have HX : Hid (dgt u :: ds = Lib.decDigits U) := by
        show _ = _
        rw [← HD.out, dec_small h10, dgt, Nat.mod_eq_of_lt h10]
        rfl
      have HB2 := hid HB1.out
      rw [HX.out] at HB2
      clear HB1 HB HD
      go_wp2
      go_loopw [6] (fun i wx => ∃ (n k : Nat), i = .int .i64 n ∧ BufAt wx w.heap.size n (List.replicate k 48 ++ Lib.decDigits U) ∧ (k = 0 ∨ (Lib.decDigits U).length + k ≤ 5) ∧ Below w.heap.size w wx) (fun i _ => (intOf i).toNat)
      case atStart => exact ⟨n', 0, rfl, HB2.out, .inl rfl, hb1⟩
      case round =>
        obtain ⟨n, k, rfl, hbuf, hk, hbr2⟩ := hrel
        have HB3 := hid hbuf
        have hnk : n + (k + (Lib.decDigits U).length) = 32 := by obtain ⟨_, _, _, h, _⟩ := hbuf; simpa using h
        have h20 := HLEN.out
        have hpos : 1 ≤ (Lib.decDigits U).length := by rw [Lib.decDigits_length]; exact Lib.nDigits_pos U
        clear hbuf
        by_cases hw5 : (Lib.decDigits U).length + k < 5
        · obtain ⟨n2, rfl⟩ : ∃ n2, n = n2 + 1 := ⟨n - 1, by omega⟩
          have ht : (32 : Int) - ((n2 : Int) + 1) < 5 := by omega
          obtain ⟨v1, c1⟩ := HB3.out.cell (show n2 < 32 by omega)
          have f1 := HB3.out.free n2
          have hn2 : (n2 : Int) < 32 := by omega
          have HS := HB3.out.store 48
          rw [zero_cell] at HS
          have HS2 := hid HS
          have HK := hid (show n2 + 1 + (k + (Lib.decDigits U).length) = 32 ∧ (Lib.decDigits U).length + k < 5 from ⟨hnk, hw5⟩)
          clear HS hnk hk hw5 h20 hpos
          go_wp2
          go_roundw
          case rel => exact ⟨n2, k + 1, rfl, HS2.out, .inr (by have := HK.out.2; omega), hbr2.setCell (Nat.le_refl _) _⟩
          case measure => simp [intOf]
        · have HC := hid (code_of (U : Int) (List.replicate k 48 ++ Lib.decDigits U) (by
            rw [FmtText.zeros, if_neg (by omega)]
            simp only [Int.toNat_natCast]
            rw [show k = 5 - (Lib.decDigits U).length by omega]))
          have hn32 : n < 32 := by omega
          have ht : ¬ (32 : Int) - (n : Int) < 5 := by omega
          have k1 := slice_buf w.heap.size n hn32
          have k2 := conv_buf HB3.out
          have HZ := hid (show (List.replicate k (48 : UInt8) ++ Lib.decDigits U).length ≤ 32 by simp; omega)
          clear hk hnk hw5 h20 hpos
          generalize List.replicate k 48 ++ Lib.decDigits U = dd at HC k2 HZ HB3
          have hz : (⟨dd.toArray⟩ : ByteArray).size ≤ 32 := HZ.out
          generalize (⟨dd.toArray⟩ : ByteArray) = sd at HC k2 hz
          go_wp2
          go_ret
          exact ⟨by rw [← HC.out]; rfl, hbr2⟩
    · have HX : Hid (Lib.decDigits (u / 10) ++ (dgt u :: ds) = Lib.decDigits U) := by
        show _ = _
        rw [← HD.out, dec_big h10, dgt]
        simp
      have hdi : ((u : Int) / 10) = ((u / 10 : Nat) : Int) := by omega
      have HDI := hid hdi
      clear hdi
      go_wp2
      go_roundw
      case rel => exact ⟨u / 10, n', _, by rw [HDI.out], rfl, by omega, HB1.out, HX.out, hb1⟩
      case measure => simp [intOf]; omega

set_option maxRecDepth 100000 in
set_option maxHeartbeats 1000000 in
theorem model_neg (i : Int) (U : Nat) (hi : i = -(U : Int)) (hneg : i < 0) (hU : (U : Int) ≤ 9223372036854775808) (w : World) :
    Calls Tryf.prog 6 #[.int .i64 i] w fun e w' => e = .returned (.string (code i)) ∧ Below w.heap.size w w' := by
  have hlen : (Lib.decDigits U).length ≤ 20 := by rw [Lib.decDigits_length]; exact Lib.nDigits_le20 U (by omega)
  have HLEN := hid hlen
  clear hlen
  have HI := hid hi
  have hwr : IntKind.u64.wrap (-IntKind.u64.wrap i) = (U : Int) := by rw [IntKind.wrap_u64, IntKind.wrap_u64]; omega
  clear hi
  go_enter Tryf.func6, Tryf.ntmps6
  go_wp2
  go_loopw [4, 6] (fun z i wr => ∃ (u n : Nat) (ds : List UInt8), z = .int .u64 u ∧ i = .int .i64 n ∧ (u : Int) ≤ 9223372036854775808 ∧ BufAt wr w.heap.size n ds ∧ Lib.decDigits u ++ ds = Lib.decDigits U ∧ Below w.heap.size w wr) (fun z _ _ => (intOf z).toNat)
  case atStart => exact ⟨U, 32, [], rfl, rfl, by omega, buf_new w _ rfl, by simp, (Below.refl _ _).alloc (Nat.le_refl _) _⟩
  case round =>
    obtain ⟨u, n, ds, rfl, rfl, hu, hbuf, hdec, hbr⟩ := hrel
    have HB := hid hbuf
    have HD := hid hdec
    have hlen2 := congrArg List.length hdec
    rw [List.length_append] at hlen2
    have hpos : 1 ≤ (Lib.decDigits u).length := by rw [Lib.decDigits_length]; exact Lib.nDigits_pos u
    have hnds : n + ds.length = 32 := by obtain ⟨_, _, _, h, _⟩ := hbuf; exact h
    have h20 := HLEN.out
    obtain ⟨n', rfl⟩ : ∃ n', n = n' + 1 := ⟨n - 1, by omega⟩
    have hn31 : n' < 32 := by omega
    clear hbuf hdec hlen2 hpos hnds h20
    obtain ⟨v0, c0⟩ := HB.out.cell hn31
    have f0 := HB.out.free n'
    have hni : (n' : Int) < 32 := by omega
    have HS := HB.out.store (dgt u)
    rw [dgt_cell] at HS
    have HB1 := hid HS
    clear HS
    have hb1 : Below w.heap.size w (wr.setCell ⟨w.heap.size, n', none⟩ (.int .u8 (48 + (u : Int) % 10))) := hbr.setCell (Nat.le_refl _) _
    by_cases h10 : u < 10
    · have HX : Hid (dgt u :: ds = Lib.decDigits U) := by
        show _ = _
        rw [← HD.out, dec_small h10, dgt, Nat.mod_eq_of_lt h10]
        rfl
      have HB2 := hid HB1.out
      rw [HX.out] at HB2
      clear HB1 HB HD
      go_wp2
      go_loopw [6] (fun i wx => ∃ (n k : Nat), i = .int .i64 n ∧ BufAt wx w.heap.size n (List.replicate k 48 ++ Lib.decDigits U) ∧ (k = 0 ∨ (Lib.decDigits U).length + k ≤ 4) ∧ Below w.heap.size w wx) (fun i _ => (intOf i).toNat)
      case atStart => exact ⟨n', 0, rfl, HB2.out, .inl rfl, hb1⟩
      case round =>
        obtain ⟨n, k, rfl, hbuf, hk, hbr2⟩ := hrel
        have HB3 := hid hbuf
        have hnk : n + (k + (Lib.decDigits U).length) = 32 := by obtain ⟨_, _, _, h, _⟩ := hbuf; simpa using h
        have h20 := HLEN.out
        have hpos : 1 ≤ (Lib.decDigits U).length := by rw [Lib.decDigits_length]; exact Lib.nDigits_pos U
        clear hbuf
        by_cases hw5 : (Lib.decDigits U).length + k < 4
        · obtain ⟨n2, rfl⟩ : ∃ n2, n = n2 + 1 := ⟨n - 1, by omega⟩
          have ht : (32 : Int) - ((n2 : Int) + 1) < 4 := by omega
          obtain ⟨v1, c1⟩ := HB3.out.cell (show n2 < 32 by omega)
          have f1 := HB3.out.free n2
          have hn2 : (n2 : Int) < 32 := by omega
          have HS := HB3.out.store 48
          rw [zero_cell] at HS
          have HS2 := hid HS
          have HK := hid (show n2 + 1 + (k + (Lib.decDigits U).length) = 32 ∧ (Lib.decDigits U).length + k < 4 from ⟨hnk, hw5⟩)
          clear HS hnk hk hw5 h20 hpos
          go_wp2
          go_roundw
          case rel => exact ⟨n2, k + 1, rfl, HS2.out, .inr (by have := HK.out.2; omega), hbr2.setCell (Nat.le_refl _) _⟩
          case measure => simp [intOf]
        · obtain ⟨n2, rfl⟩ : ∃ n2, n = n2 + 1 := ⟨n - 1, by omega⟩
          have HC := hid (code_of i (45 :: (List.replicate k 48 ++ Lib.decDigits U)) (by
            rw [FmtText.zeros, if_pos hneg]
            rw [show i.natAbs = U by have := HI.out; omega, show k = 5 - 1 - (Lib.decDigits U).length by omega]))
          have hn32 : n2 < 32 := by omega
          have ht : ¬ (32 : Int) - ((n2 : Int) + 1) < 4 := by omega
          obtain ⟨v1, c1⟩ := HB3.out.cell (show n2 < 32 by omega)
          have f1 := HB3.out.free n2
          have hn2 : (n2 : Int) < 32 := by omega
          have HS := HB3.out.store 45
          rw [sign_cell] at HS
          have k1 := slice_buf w.heap.size n2 hn32
          have k2 := conv_buf HS
          have HZ := hid (show (45 :: (List.replicate k (48 : UInt8) ++ Lib.decDigits U)).length ≤ 32 by simp; omega)
          clear hk hnk hw5 h20 hpos HS HB3
          generalize (45 :: (List.replicate k 48 ++ Lib.decDigits U)) = dd at HC k2 HZ
          have hz : (⟨dd.toArray⟩ : ByteArray).size ≤ 32 := HZ.out
          generalize (⟨dd.toArray⟩ : ByteArray) = sd at HC k2 hz
          go_wp2
          go_ret
          exact ⟨by rw [← HC.out]; rfl, hbr2.setCell (Nat.le_refl _) _⟩
    · have HX : Hid (Lib.decDigits (u / 10) ++ (dgt u :: ds) = Lib.decDigits U) := by
        show _ = _
        rw [← HD.out, dec_big h10, dgt]
        simp
      have hdi : ((u : Int) / 10) = ((u / 10 : Nat) : Int) := by omega
      have HDI := hid hdi
      clear hdi
      go_wp2
      go_roundw
      case rel => exact ⟨u / 10, n', _, by rw [HDI.out], rfl, by omega, HB1.out, HX.out, hb1⟩
      case measure => simp [intOf]; omega

theorem model_any (i : Int) (h0 : -9223372036854775808 ≤ i) (h1 : i ≤ 9223372036854775807) (w : World) :
    Calls Tryf.prog 6 #[.int .i64 i] w fun e w' => e = .returned (.string (code i)) ∧ Below w.heap.size w w' := by
  by_cases hneg : i < 0
  · exact model_neg i i.natAbs (by omega) hneg (by omega) w
  · obtain ⟨U, rfl⟩ : ∃ U : Nat, i = U := ⟨i.toNat, by omega⟩
    exact model_pos U h1 w

theorem walk3 (F : Interp) (i : Int) (hi : (Lit.int .i64 i).wf = true) (h0 : -9223372036854775808 ≤ i) (h1 : i ≤ 9223372036854775807) (w : World) (hF : F.told.answers w.tape) :
    Calls Tryf.prog 3 #[.int .i64 i] w fun e w' => e = .returned (.bool true) ∧ Below w.heap.size w w' := by
  have HB := hid (bond_any F i w hi hF)
  have HM := hid (model_any i h0 h1)
  clear hi hF h0 h1
  go_enter Tryf.func3, Tryf.ntmps3
  go_wp2_with fail
  refine HB.out.mono ?_
  rintro e w1 ⟨rfl, hb1⟩
  go_wp2_with fail
  refine (HM.out _).mono ?_
  rintro e w2 ⟨rfl, hb2⟩
  go_wp2
  go_ret
  exact ⟨by simp, hb1.trans (hb2.mono hb1.size)⟩

end Go.Proofs.Qxb6605807aFmt.Bc
