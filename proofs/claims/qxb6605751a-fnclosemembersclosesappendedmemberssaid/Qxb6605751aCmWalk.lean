/-
  THE WALK of FnCloseMembersClosesAppendedMembers (3), its callees by their contracts.
-/
import Derived.Test.Qxb6605751aCmSmall
import Derived.Maps.RangeWalk
namespace Go.Proofs.Qxb6605751a.Cm
open Go.RowKit
open Go.Lib (strCells strCells_length strCells_oneCell)

/-- Go's 'total' after k members. -/
def T (l0 l1 : Nat) (m : Nat → ByteArray) (k : Nat) : Nat := l0 + 16 * l1 + tot m k
/-- The length of 'b' after k members. -/
def L (l0 : Nat) (m : Nat → ByteArray) (k : Nat) : Nat := l0 + tot m k
theorem T_succ (l0 l1 : Nat) (m : Nat → ByteArray) (k : Nat) : T l0 l1 m (k + 1) = T l0 l1 m k + ((m k).size + 1) := by simp only [T, tot]; omega
theorem L_succ (l0 : Nat) (m : Nat → ByteArray) (k : Nat) : L l0 m (k + 1) = L l0 m k + 1 + (m k).size := by simp only [L, tot]; omega

/-- The prefix as the walk sees it: its elements 'pre' lie behind its address, if it has one. -/
structure PreRow (w : World) (a : Option Addr) (len cap : Nat) (pre : List Value) : Prop where
  len_eq : pre.length = len
  nil : a = none → len = 0 ∧ cap = 0
  cells : ∀ ad, a = some ad → ∀ j u, pre[j]? = some u → w.cell? (ad.add j) = some u
  one : ∀ u ∈ pre, u.oneCell' = true
  bytes : Bytes pre

theorem PreRow.later {w wr : World} {a : Option Addr} {len cap : Nat} {pre : List Value} (h : PreRow w a len cap pre) (hb : Below w.heap.size w wr) : ∀ ad, a = some ad → ∀ j u, pre[j]? = some u → wr.cell? (ad.add j) = some u := by
  intro ad ha j u hu
  have hc := h.cells ad ha j u hu
  rw [hb.cell (World.block_lt_of_cell? w _ hc)]
  exact hc

theorem asGrown {w w' : World} (h : Below w.heap.size w w') (row : Option Nat) : w.grownBy w' row := ⟨h.os, h.tape, h.output, h.size, fun k hk _ => h.block k hk⟩

/-- ZZcloseMembers over what loop 2 has written: in both cases what 'want' holds. -/
theorem zz_both (l0 q cap g base : Nat) (m : Nat → ByteArray) (pre : List Value) (w : World) (hpl : pre.length = l0) (hL : L l0 m q ≤ 2000000) (hbase : base ≤ w.heap.size) (hown : w.ownsRow base 5 1 (.slice (some ⟨g, 0, none⟩) (L l0 m q) cap) (L l0 m q) (pre ++ cat m q)) :
    Calls Try.prog 6 #[.slice (some ⟨g, 0, none⟩) (L l0 m q) cap, .int .i64 l0] w fun e w' => ∃ v' n', e = .returned v' ∧ w'.ownsRow base 5 1 v' n' (pre ++ (one 123 ++ (joined m q ++ one 125))) ∧ w.grownBy w' (some g) := by
  cases q with
  | zero =>
    refine (zz_none base g _ l0 cap _ w (by simp [L, tot]) hL hbase hown).mono ?_
    rintro e w1 ⟨v1, n1, rfl, ho1, hg1⟩
    exact ⟨v1, n1, rfl, by simpa [cat, joined] using ho1, hg1⟩
  | succ p =>
    refine (zz_some base g _ l0 cap _ w hL (by simp only [L, tot]; omega) hbase hown).mono ?_
    rintro e w1 ⟨v1, n1, rfl, ho1, hg1⟩
    refine ⟨v1, n1, rfl, ?_, hg1⟩
    have e := close_set m pre p
    rw [hpl] at e
    rw [e] at ho1
    simpa only [List.append_assoc] using ho1

set_option maxRecDepth 100000 in
set_option maxHeartbeats 1000000 in
theorem walk (a0 : Option Addr) (l0 cap0 : Nat) (pre : List Value) (a1 : Option Addr) (l1 cap1 : Nat) (m : Nat → ByteArray) (w : World) (hl0 : l0 ≤ maxLen) (hl1 : l1 ≤ maxLen) (hp : PreRow w a0 l0 cap0 pre) (hr : StrRow w a1 l1 m) :
    Calls Try.prog 3 #[.slice a0 l0 cap0, .slice a1 l1 cap1] w fun e w' => e = .returned (.bool true) ∧ Below w.heap.size w w' := by
  have hb5 := bytes_any a0 l0 cap0 a1 l1 cap1 m w hl1 hr
  unfold maxLen at hl0 hl1
  have hHr : Hid (StrRow w a1 l1 m) := hr
  clear hr
  obtain ⟨i0, hi, hz0, hz1, hz2⟩ := info_parts Try.info5
  go_enter Try.func3, Try.ntmps3
  go_wp2_with fail
  refine hb5.mono ?_
  clear hb5
  rintro e w1 ⟨⟨r, rfl, hms⟩, rfl⟩
  cases r
  · go_wp2
    go_ret
    exact ⟨rfl, Below.refl _ _⟩
  have hHm : Hid (∀ j, j < l1 → (m j).size ≤ 1048576) := hms rfl
  clear hms
  go_wp2
  any_goals (go_ret; exact ⟨rfl, Below.refl _ _⟩)
  go_loop [5, 6] (fun z i => ∃ k : Nat, k ≤ l1 ∧ i = .int .i64 k ∧ z = .int .i64 (T l0 l1 m k : Nat) ∧ ((T l0 l1 m k : Nat) : Int) ≤ 1048576) (fun _ i => l1 - (intOf i).toNat)
  case atStart => exact ⟨0, Nat.zero_le _, rfl, by simp [T, tot], by simp only [T, tot]; omega⟩
  case round =>
    obtain ⟨k, hk, rfl, rfl, hT⟩ := hrel
    by_cases hlt : k < l1
    · rcases hHr.out with h0 | ⟨b, off, ha, hbb, hc⟩
      · omega
      subst ha
      have hck := hc k hlt
      have hmk : ((m k).size : Int) ≤ 1048576 := by have := hHm.out k hlt; omega
      have HT : Hid (T l0 l1 m (k + 1) = T l0 l1 m k + ((m k).size + 1)) := T_succ l0 l1 m k
      generalize m k = s at hck hmk HT
      clear hc
      by_cases ht : (1048576 : Int) < ((T l0 l1 m k : Nat) : Int) + ((s.size : Int) + 1)
      · go_wp2
        go_ret
        exact ⟨rfl, Below.refl _ _⟩
      go_wp2
      go_round
      case rel => exact ⟨k + 1, by omega, by go_num, by rw [HT.out]; go_num, by rw [HT.out]; omega⟩
      case measure => simp [intOf]; omega
    obtain rfl : k = l1 := by omega
    go_wp2_with (at_make; refine wpList_make_own _ rfl _ _ 22 rfl w.heap.size 5 i0 (.int .u8 0) 1 Try.underlying22 hi hz0 hz1 _ _ _ (T l0 k m k) rfl rfl rfl ?b2 ?b3 ?b4 ?_)
    case b2 => omega
    case b3 => unfold maxLen; omega
    intro w1 hown1 hg1
    go_wp2_with (at_builtin; refine wpList_append_fits_any _ rfl (.tmp 51) (.tmp 52) 22 rfl w.heap.size 5 i0 1 Try.underlying22 hi hz1 w.heap.size 0 (T l0 k m k) [] rfl hown1 a0 l0 cap0 pre rfl ?d1 hp.nil ?d2 hp.one ?d3 ?_)
    case d1 => rw [hp.len_eq]; omega
    case d2 => exact hp.later ((Below.refl _ _).grown hg1 (Nat.le_refl _) (fun _ h => by cases h))
    case d3 => simp only [T]; omega
    intro w2 hown2 hg2
    have hbel2 : Below w.heap.size w w2 := ((Below.refl _ _).grown hg1 (Nat.le_refl _) (fun _ h => by cases h)).grown hg2 hg1.size (fun _ h => by cases h; exact Nat.le_refl _)
    clear hown1 hg1 hg2
    have hL : ∀ j, j ≤ k → L l0 m j + 16 * k ≤ T l0 k m k := fun j hj => by have := tot_mono m hj; simp only [L, T]; omega
    have hHL : Hid (∀ j, j ≤ k → L l0 m j + 16 * k ≤ T l0 k m k) := hL
    clear hL
    go_wp2
    go_loopw [7, 9] (fun v i wr => ∃ j : Nat, j ≤ k ∧ i = .int .i64 j ∧ v = .slice (some ⟨w.heap.size, 0, none⟩) (L l0 m j) (T l0 k m k) ∧ wr.ownsRow w.heap.size 5 1 (.slice (some ⟨w.heap.size, 0, none⟩) (L l0 m j) (T l0 k m k)) (L l0 m j) (pre ++ cat m j) ∧ Below w.heap.size w wr) (fun _ i _ => k - (intOf i).toNat)
    case atStart => exact ⟨0, Nat.zero_le _, rfl, rfl, by simpa [cat, L, tot] using hown2, hbel2⟩
    case round =>
      obtain ⟨j, hj, rfl, rfl, hownr, hbelr⟩ := hrel
      by_cases hlt2 : j < k
      · rcases hHr.out with h0 | ⟨b, off, ha, hbb, hc⟩
        · omega
        subst ha
        have hcj : wr.cell? ⟨b, off + j, none⟩ = some (.string (m j)) := (hbelr.cell (by exact hbb)).trans (hc j hlt2)
        have hLs := L_succ l0 m j
        have hHLj := hHL.out (j + 1) (by omega)
        have HL2 : Hid (L l0 m (j + 1) = L l0 m j + 1 + (m j).size ∧ L l0 m (j + 1) + 16 * k ≤ T l0 k m k) := ⟨hLs, hHLj⟩
        clear hLs hHLj hc
        have HO : Hid (wr.ownsRow w.heap.size 5 1 (.slice (some ⟨w.heap.size, 0, none⟩) (L l0 m j) (T l0 k m k)) (L l0 m j) (pre ++ cat m j)) := hownr
        clear hownr
        go_wp2_with (at_builtin; refine wpList_append_fits _ rfl (.tmp 62) (.tmp 63) 22 rfl w.heap.size 5 i0 1 Try.underlying22 hi hz1 w.heap.size (L l0 m j) (T l0 k m k) (pre ++ cat m j) rfl (HO.out.alloc _) ⟨wr.heap.size, 0, none⟩ 1 1 (one 44) rfl rfl (cell_one_new _ _ _) ?e1 ?e2 ?_)
        case e1 => intro u hu; simp [one] at hu; subst hu; rfl
        case e2 => have := HL2.out; omega
        intro w3 hown3 hg3
        have hbel3 : Below w.heap.size w w3 := (hbelr.alloc hbelr.size _).grown hg3 (by have := hbelr.size; simp; omega) (fun _ h => by cases h; exact Nat.le_refl _)
        have hcj3 : w3.cell? ⟨b, off + j, none⟩ = some (.string (m j)) := (hbel3.cell (by exact hbb)).trans ((hbelr.cell (by exact hbb)).symm.trans hcj)
        clear hg3 hcj HO
        go_wp2_with (at_builtin; refine Lib.wpList_append_fits_string _ rfl (.tmp 65) (.tmp 69) 22 9 rfl w.heap.size 5 i0 Try.underlying22 Try.underlying9 hi hz1 (some ⟨w.heap.size, 0, none⟩) (L l0 m j + 1) (T l0 k m k) _ rfl hown3 (m j) rfl ?f1 ?f2 ?_)
        case f1 => have := HL2.out; omega
        case f2 => have := HL2.out; omega
        intro w4 hown4 hg4
        have hbel4 : Below w.heap.size w w4 := hbel3.grown hg4 hbel3.size (fun _ h => by cases h; exact Nat.le_refl _)
        have HO4 : Hid (w4.ownsRow w.heap.size 5 1 (.slice (some ⟨w.heap.size, 0, none⟩) (L l0 m (j + 1)) (T l0 k m k)) (L l0 m (j + 1)) (pre ++ cat m (j + 1))) := by
          have h2 := HL2.out.1
          show World.ownsRow _ _ _ _ _ _ _
          rw [h2]
          simpa only [cat, List.append_assoc] using hown4
        clear hown3 hown4 hg4 hcj3
        go_wp2
        go_roundw
        case rel => exact ⟨j + 1, by omega, by go_num, by rw [HL2.out.1], HO4.out, hbel4⟩
        case measure => simp [intOf]; omega
      obtain rfl : j = k := by omega
      rename World => wb
      have HB : Hid (wb.ownsRow w.heap.size 5 1 (.slice (some ⟨w.heap.size, 0, none⟩) (L l0 m j) (T l0 j m j)) (L l0 m j) (pre ++ cat m j)) := hownr
      clear hownr
      have hgt : w.heap.size < wb.heap.size := (HB.out.lt _ rfl).2
      have HJ : Hid (∀ i, i ≤ j → J l0 m i ≤ T l0 j m j + 1) := fun i hi => by have := tot_mono m hi; have := joined_le m i; simp only [J, T]; omega
      go_wp2_with (at_make; refine wpList_make_own _ rfl _ _ 22 rfl wb.heap.size 5 i0 (.int .u8 0) 1 Try.underlying22 hi hz0 hz1 _ _ _ (T l0 j m j + 2) rfl rfl ?g1 ?g2 ?g3 ?g4 ?_)
      case g1 => omega
      case g2 => rw [hz2]; omega
      case g3 => unfold maxLen; omega
      case g4 => exact Nat.le_refl _
      intro w5 hown5 hg5
      have hb5 : Below wb.heap.size wb w5 := (Below.refl _ _).grown hg5 (Nat.le_refl _) (fun _ h => by cases h)
      go_wp2_with (at_builtin; refine wpList_append_fits_any _ rfl (.tmp 74) (.tmp 75) 22 rfl wb.heap.size 5 i0 1 Try.underlying22 hi hz1 wb.heap.size 0 (T l0 j m j + 2) [] rfl hown5 a0 l0 cap0 pre rfl ?p1 hp.nil ?p2 hp.one ?p3 ?_)
      case p1 => rw [hp.len_eq]; omega
      case p2 => exact hp.later (hbelr.trans (hb5.mono hbelr.size))
      case p3 => simp only [T]; omega
      intro w6 hown6 hg6
      have hb6 : Below wb.heap.size wb w6 := hb5.grown hg6 hg5.size (fun _ h => by cases h; exact Nat.le_refl _)
      clear hown5 hg5 hg6 hb5
      go_wp2_with (at_builtin; refine wpList_append_fits _ rfl (.tmp 77) (.tmp 78) 22 rfl wb.heap.size 5 i0 1 Try.underlying22 hi hz1 wb.heap.size l0 (T l0 j m j + 2) _ rfl (hown6.alloc _) ⟨w6.heap.size, 0, none⟩ 1 1 (one 123) rfl rfl (cell_one_new _ _ _) ?q1 ?q2 ?_)
      case q1 => intro u hu; simp [one] at hu; subst hu; rfl
      case q2 => simp only [T]; omega
      intro w7 hown7 hg7
      have hb7 : Below wb.heap.size wb w7 := (hb6.alloc hb6.size _).grown hg7 (by have := hb6.size; simp; omega) (fun _ h => by cases h; exact Nat.le_refl _)
      clear hown6 hg7 hb6
      go_wp2
      go_loopw [10, 11] (fun v i wx => ∃ q : Nat, q ≤ j ∧ i = .int .i64 q ∧ v = .slice (some ⟨wb.heap.size, 0, none⟩) (J l0 m q) (T l0 j m j + 2) ∧ wx.ownsRow wb.heap.size 5 1 (.slice (some ⟨wb.heap.size, 0, none⟩) (J l0 m q) (T l0 j m j + 2)) (J l0 m q) (pre ++ (one 123 ++ joined m q)) ∧ Below wb.heap.size wb wx) (fun _ i _ => j - (intOf i).toNat)
      case atStart => exact ⟨0, Nat.zero_le _, rfl, rfl, by simpa [joined, J_zero] using hown7, hb7⟩
      case round =>
        obtain ⟨q, hq, rfl, rfl, hownr, hbr⟩ := hrel
        by_cases hlt3 : q < j
        · rcases hHr.out with h0 | ⟨b, off, ha, hbb, hc⟩
          · omega
          subst ha
          have hbw : Below w.heap.size w wr := hbelr.trans (hbr.mono hbelr.size)
          have hcq : wr.cell? ⟨b, off + q, none⟩ = some (.string (m q)) := (hbw.cell (by exact hbb)).trans (hc q hlt3)
          have HJ1 := HJ.out (q + 1) (by omega)
          have HO : Hid (wr.ownsRow wb.heap.size 5 1 (.slice (some ⟨wb.heap.size, 0, none⟩) (J l0 m q) (T l0 j m j + 2)) (J l0 m q) (pre ++ (one 123 ++ joined m q))) := hownr
          clear hownr hc
          by_cases hq0 : q = 0
          · subst hq0
            rw [Nat.add_zero] at hcq
            have HJ2 : Hid (J l0 m 1 = J l0 m 0 + (m 0).size) := by show J l0 m 1 = _; rw [J_one, J_zero]
            have HJ1' : Hid (J l0 m 1 ≤ T l0 j m j + 1) := HJ1
            clear HJ1
            go_wp2_with (at_builtin; refine Lib.wpList_append_fits_string _ rfl (.tmp 91) (.tmp 95) 22 9 rfl wb.heap.size 5 i0 Try.underlying22 Try.underlying9 hi hz1 (some ⟨wb.heap.size, 0, none⟩) (J l0 m 0) (T l0 j m j + 2) _ rfl HO.out (m 0) rfl ?r1 ?r2 ?_)
            case r1 => omega
            case r2 => have := HJ2.out; have := HJ1'.out; omega
            intro w8 hown8 hg8
            have hb8 : Below wb.heap.size wb w8 := hbr.grown hg8 hbr.size (fun _ h => by cases h; exact Nat.le_refl _)
            have HO8 : Hid (w8.ownsRow wb.heap.size 5 1 (.slice (some ⟨wb.heap.size, 0, none⟩) (J l0 m 1) (T l0 j m j + 2)) (J l0 m 1) (pre ++ (one 123 ++ joined m 1))) := by
              show World.ownsRow _ _ _ _ _ _ _
              rw [HJ2.out, joined_one]
              simpa [joined] using hown8
            clear hown8 hg8 HO
            go_wp2
            go_roundw
            case rel => exact ⟨1, by omega, by go_num, by rw [HJ2.out], HO8.out, hb8⟩
            case measure => simp [intOf]; omega
          · have HJ2 : Hid (J l0 m (q + 1) = J l0 m q + 1 + (m q).size) := J_succ l0 m q hq0
            have HJ1' : Hid (J l0 m (q + 1) ≤ T l0 j m j + 1) := HJ1
            have hqp : (0 : Int) < (q : Int) := by omega
            clear HJ1
            go_wp2_with (at_builtin; refine wpList_append_fits _ rfl (.tmp 88) (.tmp 89) 22 rfl wb.heap.size 5 i0 1 Try.underlying22 hi hz1 wb.heap.size (J l0 m q) (T l0 j m j + 2) _ rfl (HO.out.alloc _) ⟨wr.heap.size, 0, none⟩ 1 1 (one 44) rfl rfl (cell_one_new _ _ _) ?s1 ?s2 ?_)
            case s1 => intro u hu; simp [one] at hu; subst hu; rfl
            case s2 => have := HJ2.out; have := HJ1'.out; omega
            intro w8 hown8 hg8
            have hb8 : Below wb.heap.size wb w8 := (hbr.alloc hbr.size _).grown hg8 (by have := hbr.size; simp; omega) (fun _ h => by cases h; exact Nat.le_refl _)
            have hcq8 : w8.cell? ⟨b, off + q, none⟩ = some (.string (m q)) := ((hbelr.trans (hb8.mono hbelr.size)).cell (by exact hbb)).trans ((hbw.cell (by exact hbb)).symm.trans hcq)
            clear hg8 HO hcq
            go_wp2_with (at_builtin; refine Lib.wpList_append_fits_string _ rfl (.tmp 91) (.tmp 95) 22 9 rfl wb.heap.size 5 i0 Try.underlying22 Try.underlying9 hi hz1 (some ⟨wb.heap.size, 0, none⟩) (J l0 m q + 1) (T l0 j m j + 2) _ rfl hown8 (m q) rfl ?r1 ?r2 ?_)
            case r1 => omega
            case r2 => have := HJ2.out; have := HJ1'.out; omega
            intro w9 hown9 hg9
            have hb9 : Below wb.heap.size wb w9 := hb8.grown hg9 hb8.size (fun _ h => by cases h; exact Nat.le_refl _)
            have HO9 : Hid (w9.ownsRow wb.heap.size 5 1 (.slice (some ⟨wb.heap.size, 0, none⟩) (J l0 m (q + 1)) (T l0 j m j + 2)) (J l0 m (q + 1)) (pre ++ (one 123 ++ joined m (q + 1)))) := by
              show World.ownsRow _ _ _ _ _ _ _
              rw [HJ2.out, joined_succ m q hq0]
              simpa only [List.append_assoc] using hown9
            clear hown9 hg9 hown8
            go_wp2
            go_roundw
            case rel => exact ⟨q + 1, by omega, by go_num, by rw [HJ2.out], HO9.out, hb9⟩
            case measure => simp [intOf]; omega
        obtain rfl : q = j := by omega
        have HJq := HJ.out q (Nat.le_refl _)
        have HJ3 : Hid (J l0 m q ≤ T l0 q m q + 1) := HJq
        clear HJq
        have HW : Hid (wr.ownsRow wb.heap.size 5 1 (.slice (some ⟨wb.heap.size, 0, none⟩) (J l0 m q) (T l0 q m q + 2)) (J l0 m q) (pre ++ (one 123 ++ joined m q))) := hownr
        clear hownr
        go_wp2_with (at_builtin; refine wpList_append_fits _ rfl (.tmp 97) (.tmp 98) 22 rfl wb.heap.size 5 i0 1 Try.underlying22 hi hz1 wb.heap.size (J l0 m q) (T l0 q m q + 2) _ rfl (HW.out.alloc _) ⟨wr.heap.size, 0, none⟩ 1 1 (one 125) rfl rfl (cell_one_new _ _ _) ?t1 ?t2 ?_)
        case t1 => intro u hu; simp [one] at hu; subst hu; rfl
        case t2 => have := HJ3.out; omega
        intro wf hownf hgf
        have hbf : Below wb.heap.size wb wf := (hbr.alloc hbr.size _).grown hgf (by have := hbr.size; simp; omega) (fun _ h => by cases h; exact Nat.le_refl _)
        have HBf : Hid (wf.ownsRow w.heap.size 5 1 (.slice (some ⟨w.heap.size, 0, none⟩) (L l0 m q) (T l0 q m q)) (L l0 m q) (pre ++ cat m q)) := HB.out.kept (asGrown hbf Option.none) (Or.inr (by simp [Value.ownBlock]))
        have HF : Hid (wf.ownsRow wb.heap.size 5 1 (.slice (some ⟨wb.heap.size, 0, none⟩) (J l0 m q + 1) (T l0 q m q + 2)) (J l0 m q + 1) (pre ++ (one 123 ++ (joined m q ++ one 125)))) := by
          show World.ownsRow _ _ _ _ _ _ _
          simpa only [List.append_assoc] using hownf
        have hLq : L l0 m q ≤ 2000000 := by have := hHL.out q (Nat.le_refl _); omega
        have HZ := zz_both l0 q (T l0 q m q) w.heap.size w.heap.size m pre wf hp.len_eq hLq (by have := hbf.size; omega) HBf.out
        clear hownf hgf HW HB hLq
        go_wp2_with fail
        refine HZ.mono ?_
        clear HZ
        rintro e w10 ⟨v', n', rfl, hown10, hg10⟩
        have hw10 : w10.ownsRow wb.heap.size 5 1 (.slice (some ⟨wb.heap.size, 0, none⟩) (J l0 m q + 1) (T l0 q m q + 2)) (J l0 m q + 1) (pre ++ (one 123 ++ (joined m q ++ one 125))) := HF.out.kept hg10 (Or.inr (by simp [Value.ownBlock]; omega))
        have hn' : n' = J l0 m q + 1 := by have h1 := hown10.1; have h2 := hw10.1; omega
        have HS := same_rows w.heap.size wb.heap.size n' (J l0 m q + 1) v' _ _ w10 (by have := HJ3.out; unfold maxLen; omega) (by omega) hown10 hw10 (hp.bytes.append ((bytes_one _).append ((bytes_joined _ _).append (bytes_one _))))
        have hbw : Below w.heap.size w w10 := (hbelr.trans (hbf.mono hbelr.size)).grown hg10 (by have := hbf.size; omega) (fun _ h => by cases h; exact Nat.le_refl _)
        clear hown10 hw10 hg10 hn' HF HBf
        go_wp2_with fail
        refine HS.mono ?_
        clear HS
        rintro e w11 ⟨rfl, hb11⟩
        go_wp2
        go_ret
        exact ⟨rfl, hbw.trans (hb11.mono hbw.size)⟩

end Go.Proofs.Qxb6605751a.Cm
