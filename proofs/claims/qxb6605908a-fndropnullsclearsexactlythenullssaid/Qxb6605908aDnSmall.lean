/-
  THE WALKS of the small callees of FnDropNullsClearsExactlyTheNulls: zzCloneBytes (19), zzIsNull (24), zzSameRaw (25), zzDropped (21), bytes.Equal (23).
-/
import Derived.Test.Qxb6605908aRows
import Derived.WalkKit
import Derived.WalkSpells
import Derived.WalkLawsBesides
import Derived.Deep.QuietTactic
import Derived.BigQuiet
import Derived.Maps.RangeWalk
import Derived.Laws.BytesArg
import Derived.Lib.SliceRun
namespace Go.Proofs.Qxb6605908a.Dn
open Go.RowKit

theorem hid {p : Prop} (h : p) : Hid p := h
theorem Try.info5 : (Try.prog.info? 5).map (fun i => (i.zero, i.size, i.bytes)) = some (some (.int .u8 0), 1, 1) := by kernel_rfl

/-- A slice of bytes as the walk sees it: empty, or its cells lie behind an address. -/
def BRow (w : World) (a : Option Addr) (l : Nat) (f : Nat → UInt8) : Prop :=
  (a = none → l = 0) ∧ (l = 0 ∨ ∃ b off, a = some ⟨b, off, none⟩ ∧ b < w.heap.size ∧ ∀ j, j < l → w.cell? ⟨b, off + j, none⟩ = some (.int .u8 ((f j).toNat : Int)))

theorem BRow.below {w w' : World} {C : Nat} {a : Option Addr} {l : Nat} {f : Nat → UInt8} (h : BRow w a l f) (hC : w.heap.size ≤ C) (hb : Below C w w') : BRow w' a l f := by
  refine ⟨h.1, ?_⟩
  rcases h.2 with h0 | ⟨b, off, ha, hlt, hc⟩
  · exact .inl h0
  exact .inr ⟨b, off, ha, by have := hb.size; omega, fun j hj => (hb.cell (by show b < C; omega)).trans (hc j hj)⟩

/-- It is the text null. -/
def isNull (l : Nat) (f : Nat → UInt8) : Bool := l == 4 && ((f 0).toNat : Int) == 110 && ((f 1).toNat : Int) == 117 && ((f 2).toNat : Int) == 108 && ((f 3).toNat : Int) == 108

/-- The first k cells are those of f. -/
def Upto (f : Nat → Value) (xs : List Value) (k : Nat) : Prop := ∀ j, j < k → xs[j]? = some (f j)
theorem upto_zero (f : Nat → Value) (xs : List Value) : Upto f xs 0 := fun j hj => by omega
theorem upto_succ {f : Nat → Value} {xs : List Value} {k : Nat} (h : Upto f xs k) (hk : k < xs.length) : Upto f (xs.set k (f k)) (k + 1) := by
  intro j hj
  rw [List.getElem?_set]
  by_cases e : k = j
  · subst e; simp [hk]
  · rw [if_neg e]; exact h j (by omega)

theorem asGrown {w w' : World} (h : Below w.heap.size w w') (row : Option Nat) : w.grownBy w' row := ⟨h.os, h.tape, h.output, h.size, fun k hk _ => h.block k hk⟩

/-- zzCloneBytes. -/
theorem clone_any (a : Option Addr) (l c : Nat) (m : Nat → UInt8) (w : World) (hl : l ≤ 1048576) (hr : BRow w a l m) :
    Calls Try.prog 19 #[.slice a l c] w fun e w' => ∃ a' c', e = .returned (.slice a' l c') ∧ BRow w' a' l m ∧ a'.isNone = a.isNone ∧ (∀ y, a' = some y → w.heap.size ≤ y.block) ∧ Below w.heap.size w w' := by
  cases a with
  | none =>
    obtain rfl := hr.1 rfl
    have hq := fun (w : World) => Lib.run_eql_slice_nil (P := Try.prog) w 33 5 none 0 c 0 0 Try.underlying33
    clear hr
    go_enter Try.func19, Try.ntmps19
    go_wp2
    go_ret
    exact ⟨none, 0, rfl, ⟨fun _ => rfl, .inl rfl⟩, rfl, (fun _ h => by cases h), Below.refl _ _⟩
  | some x =>
    obtain ⟨i0, hi, hz0, hz1, hz2⟩ := info_parts Try.info5
    have HR := hid hr
    clear hr
    have hq := fun (w : World) => Lib.run_eql_slice_nil (P := Try.prog) w 33 5 (some x) l c 0 0 Try.underlying33
    go_enter Try.func19, Try.ntmps19
    go_wp2_with (at_make; refine wpList_make_full _ rfl (.tmp 8) (.tmp 8) 33 rfl w.heap.size 5 i0 (.int .u8 0) 1 Try.underlying33 hi hz0 hz1 .i64 .i64 _ _ l rfl rfl rfl rfl ?b2 ?b3 ?b4 ?_)
    case b2 => rw [hz2]; omega
    case b3 => unfold maxLen; omega
    case b4 => exact Nat.le_refl _
    intro w1 hown hg
    have hb1 : Below w.heap.size w w1 := (Below.refl _ _).grown hg (Nat.le_refl _) (fun _ h => by cases h)
    have HO := hid hown
    clear hown hg
    go_wp2
    go_loopw [4] (fun i wr => ∃ (k : Nat) (xs : List Value), k ≤ l ∧ i = .int .i64 k ∧ wr.ownsRow w.heap.size 5 1 (.slice (some ⟨w.heap.size, 0, none⟩) l l) l xs ∧ Upto (fun j => .int .u8 ((m j).toNat : Int)) xs k ∧ Below w.heap.size w wr) (fun i _ => l - (intOf i).toNat)
    case atStart => exact ⟨0, _, Nat.zero_le _, rfl, HO.out, upto_zero _ _, hb1⟩
    case round =>
      obtain ⟨k, xs, hk, rfl, hownr, hup, hbr⟩ := hrel
      have HOr := hid hownr
      have HU := hid hup
      clear hownr hup
      by_cases hlt : k < l
      · rcases HR.out.2 with h0 | ⟨b, off, ha, hb, hc⟩
        · omega
        cases ha
        have hxl : xs.length = l := by simpa using HOr.out.1
        have g0 : wr.cell? ⟨b, off + k, none⟩ = some (.int .u8 ((m k).toNat : Int)) := (hbr.cell (by exact hb)).trans (hc k hlt)
        obtain ⟨y0, d0⟩ : ∃ y, wr.cell? ⟨w.heap.size, k, none⟩ = some y := ⟨_, (HOr.out.cellAt _ (by omega)).trans (List.getElem?_eq_getElem (by omega))⟩
        have f0 := HOr.out.frozenAt k
        have hki : (k : Int) < (l : Int) := by omega
        clear hc
        go_wp2
        have HL := HOr.out.stored k (.int .u8 ((m k).toNat : Int))
        go_roundw
        case rel => exact ⟨k + 1, _, by omega, by go_num, HL.1, upto_succ HU.out (by omega), hbr.grown HL.2 hbr.size (fun _ h => by cases h; exact Nat.le_refl _)⟩
        case measure => simp [intOf]; omega
      obtain rfl : k = l := by omega
      go_wp2
      go_ret
      refine ⟨_, _, rfl, ⟨(fun h => by cases h), .inr ⟨w.heap.size, 0, rfl, (HOr.out.lt _ rfl).2, fun j hj => ?_⟩⟩, rfl, (fun _ h => by cases h; exact Nat.le_refl _), hbr⟩
      rw [Nat.zero_add, HOr.out.cellAt _ (by omega)]
      exact HU.out j hj

/-- zzIsNull. -/
theorem isNull_any (a : Option Addr) (l c : Nat) (f : Nat → UInt8) (w : World) (hl : l ≤ 1048576) (hr : BRow w a l f) :
    Calls Try.prog 24 #[.slice a l c] w fun e w' => e = .returned (.bool (isNull l f)) ∧ w = w' := by
  by_cases h4 : l = 4
  · subst h4
    rcases hr.2 with h0 | ⟨b, off, rfl, hb, hc⟩
    · omega
    have c0 := hc 0 (by omega)
    have c1 := hc 1 (by omega)
    have c2 := hc 2 (by omega)
    have c3 := hc 3 (by omega)
    rw [Nat.add_zero] at c0
    obtain ⟨x0, h0⟩ : ∃ x : Int, ((f 0).toNat : Int) = x := ⟨_, rfl⟩
    obtain ⟨x1, h1⟩ : ∃ x : Int, ((f 1).toNat : Int) = x := ⟨_, rfl⟩
    obtain ⟨x2, h2⟩ : ∃ x : Int, ((f 2).toNat : Int) = x := ⟨_, rfl⟩
    obtain ⟨x3, h3⟩ : ∃ x : Int, ((f 3).toNat : Int) = x := ⟨_, rfl⟩
    have HI := hid (show isNull 4 f = (x0 == 110 && x1 == 117 && x2 == 108 && x3 == 108) by simp only [isNull, h0, h1, h2, h3]; rfl)
    rw [h0] at c0; rw [h1] at c1; rw [h2] at c2; rw [h3] at c3
    clear h0 h1 h2 h3 hc hr
    rcases Bool.eq_false_or_eq_true (x0 == 110) with e0 | e0 <;> rcases Bool.eq_false_or_eq_true (x1 == 117) with e1 | e1 <;> rcases Bool.eq_false_or_eq_true (x2 == 108) with e2 | e2 <;> rcases Bool.eq_false_or_eq_true (x3 == 108) with e3 | e3
    all_goals
      have HE := hid (show isNull 4 f = _ from (by rw [HI.out, e0, e1, e2, e3] : isNull 4 f = (_ && _ && _ && _)))
      clear HI
      go_enter Try.func24, Try.ntmps24
      go_wp2
      go_ret
      exact ⟨by rw [HE.out]; rfl, rfl⟩
  · have hi : ¬ (l : Int) = 4 := by omega
    have hib : ((l : Int) == 4) = false := by simp [hi]
    have HI := hid (show isNull l f = false by simp [isNull, h4])
    clear hr
    go_enter Try.func24, Try.ntmps24
    go_wp2
    go_ret
    exact ⟨by rw [HI.out]; rfl, rfl⟩


theorem cell_drewN (w : World) (n : Nat) (a : Addr) : (w.drewN n).cell? a = w.cell? a := World.cell?_of_block (by simp)
theorem BRow.drewN {w : World} {a : Option Addr} {l : Nat} {f : Nat → UInt8} (h : BRow w a l f) (n : Nat) : BRow (w.drewN n) a l f := by
  refine ⟨h.1, ?_⟩
  rcases h.2 with h0 | ⟨b, off, ha, hlt, hc⟩
  · exact .inl h0
  exact .inr ⟨b, off, ha, by simpa using hlt, fun j hj => (cell_drewN _ _ _).trans (hc j hj)⟩

/-- zzSameRaw, of two that are the same. -/
theorem same_any (a : Option Addr) (l c : Nat) (a' : Option Addr) (c' : Nat) (f : Nat → UInt8) (w : World) (hl : l ≤ 1048576) (hr : BRow w a l f) (hr' : BRow w a' l f) (hn : a'.isNone = a.isNone) :
    Calls Try.prog 25 #[.slice a l c, .slice a' l c'] w fun e w' => e = .returned (.bool true) ∧ ∃ n, w' = w.drewN n := by
  have hq := fun (w : World) => Lib.run_eql_slice_nil (P := Try.prog) w 33 5 a l c 0 0 Try.underlying33
  have hq' := fun (w : World) => (Lib.run_eql_slice_nil (P := Try.prog) w 33 5 a' l c' 0 0 Try.underlying33).trans (by rw [hn])
  obtain ⟨z, hz⟩ : ∃ z, a.isNone = z := ⟨_, rfl⟩
  rw [hz] at hq hq'
  have hzz : (z != z) = false := by simp
  have hll : ((l : Int) != (l : Int)) = false := by simp
  have HR := hid hr
  have HR' := hid hr'
  clear hr hr' hn hz
  go_enter Try.func25, Try.ntmps25
  go_wp2
  go_loopw [5] (fun i wr => ∃ k q : Nat, k ≤ l ∧ i = .int .i64 k ∧ wr = w.drewN q) (fun i _ => l - (intOf i).toNat)
  case atStart => exact ⟨0, 0, Nat.zero_le _, rfl, rfl⟩
  case round =>
    obtain ⟨k, q, hk, rfl, rfl⟩ := hrel
    by_cases hlt : k < l
    · rcases HR.out.2 with h0 | ⟨b, off, rfl, hb, hc⟩
      · omega
      rcases HR'.out.2 with h0 | ⟨b', off', rfl, hb', hc'⟩
      · omega
      have hck := hc k hlt
      have hck' := hc' k hlt
      have hki : (k : Int) < (l : Int) := by omega
      clear hc hc'
      obtain ⟨x, hx⟩ : ∃ x : Int, ((f k).toNat : Int) = x := ⟨_, rfl⟩
      rw [hx] at hck hck'
      have hxx : (x != x) = false := by simp
      clear hx
      go_wp2_with fail
      go_quiet (fail)
      go_wp2
      go_roundw
      case rel => exact ⟨k + 1, q + nq, by omega, by go_num, by simp⟩
      case measure => simp [intOf]; omega
    · obtain rfl : k = l := by omega
      go_wp2
      go_ret
      exact ⟨rfl, _, rfl⟩

/-- zzDropped, of a field that is as it should be. -/
theorem dropped_any (a : Option Addr) (l c : Nat) (a' : Option Addr) (l' c' : Nat) (f : Nat → UInt8) (w : World) (hl : l ≤ 1048576) (hr : BRow w a l f)
    (hy : isNull l f = true → a' = none) (hn : isNull l f = false → l' = l ∧ BRow w a' l f ∧ a'.isNone = a.isNone) :
    Calls Try.prog 21 #[.slice a l c, .slice a' l' c'] w fun e w' => e = .returned (.bool true) ∧ ∃ n, w' = w.drewN n := by
  have HC := isNull_any a l c f w hl hr
  rcases Bool.eq_false_or_eq_true (isNull l f) with h | h
  · obtain rfl := hy h
    have hq' := fun (w : World) => Lib.run_eql_slice_nil (P := Try.prog) w 33 5 none l' c' 0 0 Try.underlying33
    rw [h] at HC
    clear hr hy hn h
    go_enter Try.func21, Try.ntmps21
    go_wp2_with fail
    refine HC.mono ?_
    clear HC
    rintro e w1 ⟨rfl, rfl⟩
    go_wp2
    go_ret
    exact ⟨rfl, 0, rfl⟩
  · obtain ⟨rfl, hr', hn'⟩ := hn h
    have HS := hid (same_any a l' c a' c' f w hl hr hr' hn')
    rw [h] at HC
    clear hr hy hn h hr' hn'
    go_enter Try.func21, Try.ntmps21
    go_wp2_with fail
    refine HC.mono ?_
    clear HC
    rintro e w1 ⟨rfl, rfl⟩
    go_wp2_with fail
    refine HS.out.mono ?_
    clear HS
    rintro e w1 ⟨rfl, n, rfl⟩
    go_wp2
    go_ret
    exact ⟨rfl, n, rfl⟩

/-- The string of the first l bytes. -/
def strOf (l : Nat) (f : Nat → UInt8) : ByteArray := ⟨((List.range l).map f).toArray⟩
theorem strOf_nums (l : Nat) (f : Nat → UInt8) : strOfNums ((List.range l).map fun j => ((f j).toNat : Int)) = strOf l f := by
  unfold strOfNums strOf
  simp

theorem run_str (w : World) (a : Option Addr) (l c : Nat) (f : Nat → UInt8) (hr : BRow w a l f) : (convert 33 9 (.slice a l c)).run Try.prog w = .ok (.string (strOf l f)) w := by
  rcases hr.2 with rfl | ⟨b, off, rfl, hb, hc⟩
  · cases a with
    | none => exact run_convert_bytes_nil (P := Try.prog) w 33 5 Try.underlying33 Try.underlying5 0 c 9 Try.underlying9
    | some x =>
      rw [run_convert_bytes_string w 33 9 5 _ 0 c Try.underlying33 Try.underlying5 Try.underlying9, run_bytesToString w _ 0 c [] (by simpa using run_loadCells_list (P := Try.prog) w x [] (fun j v h => by simp at h))]
      rfl
  · have := run_convert_bytes_arg (P := Try.prog) w 33 5 Try.underlying33 Try.underlying5 b off l c ((List.range l).map fun j => ((f j).toNat : Int)) (by simp) (fun j hj => by rw [hc j hj]; simp [hj]) 9 Try.underlying9
    rw [strOf_nums] at this
    exact this

def nullB : Nat → UInt8 := fun j => if j = 0 then 110 else if j = 1 then 117 else 108

theorem u8_int (x : UInt8) (n : Nat) (hn : n < 256) : ((x.toNat : Int) == (n : Int)) = (x == UInt8.ofNat n) := by
  rw [Bool.eq_iff_iff, beq_iff_eq, beq_iff_eq]
  constructor
  · intro h
    apply UInt8.toNat_inj.1
    simp
    omega
  · intro h
    subst h
    simp
    omega

theorem str_null (l : Nat) (f : Nat → UInt8) : ((strOf l f).toList == (strOf 4 nullB).toList) = isNull l f := by
  have h1 : (((f 0).toNat : Int) == 110) = (f 0 == 110) := u8_int (f 0) 110 (by omega)
  have h2 : (((f 1).toNat : Int) == 117) = (f 1 == 117) := u8_int (f 1) 117 (by omega)
  have h3 : (((f 2).toNat : Int) == 108) = (f 2 == 108) := u8_int (f 2) 108 (by omega)
  have h4 : (((f 3).toNat : Int) == 108) = (f 3 == 108) := u8_int (f 3) 108 (by omega)
  unfold isNull
  rw [h1, h2, h3, h4, ByteArray.toList_eq, ByteArray.toList_eq]
  unfold strOf
  show (((List.range l).map f) == ((List.range 4).map nullB)) = _
  by_cases h : l = 4
  · subst h
    show ([f 0, f 1, f 2, f 3] == [110, 117, 108, 108]) = _
    simp [Bool.and_assoc]
  · have : ¬ ((List.range l).map f) = ((List.range 4).map nullB) := fun e => h (by simpa using congrArg List.length e)
    rw [beq_eq_false_iff_ne.2 this, beq_eq_false_iff_ne.2 h]
    rfl

/-- bytes.Equal with the text null. -/
theorem equal_any (a : Option Addr) (l c : Nat) (f : Nat → UInt8) (a' : Option Addr) (c' : Nat) (w : World) (hr : BRow w a l f) (hr' : BRow w a' 4 nullB) :
    Calls Try.prog 23 #[.slice a l c, .slice a' 4 c'] w fun e w' => e = .returned (.bool (isNull l f)) ∧ w = w' := by
  have h1 := run_str w a l c f hr
  have h2 := run_str w a' 4 c' nullB hr'
  have HN := hid (str_null l f)
  clear hr hr'
  obtain ⟨s, hs⟩ : ∃ s, strOf l f = s := ⟨_, rfl⟩
  obtain ⟨t, ht⟩ : ∃ t, strOf 4 nullB = t := ⟨_, rfl⟩
  rw [hs] at h1; rw [ht] at h2
  have HS := hid hs
  have HT := hid ht
  clear hs ht
  go_enter Try.func23, Try.ntmps23
  go_wp2
  go_ret
  exact ⟨by rw [← HN.out, HS.out, HT.out]; rfl, rfl⟩

end Go.Proofs.Qxb6605908a.Dn
