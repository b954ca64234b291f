/-
  THE WALKS of the reading callees of FnSelectorMatchesIsConjunctionAndOpsFlipTheirTwins: zzBytes (4), zzsAddStrings (13), zzsBytes (5), zzsDomain (6), slices.Index (17), slices.Contains (16).
-/
import Derived.Test.Qxb6605776aRows
import Derived.WalkKit
import Derived.WalkSpells
import Derived.WalkLawsBesides
import Derived.Deep.QuietTactic
import Derived.BigQuiet
namespace Go.Proofs.Qxb6605776a.Se
open Go.RowKit

theorem hid {p : Prop} (h : p) : Hid p := h

/-- A slice of strings as the walk sees it: empty, or its cells lie behind an address from block B on. -/
def StrRow (w : World) (B : Nat) (a : Option Addr) (l : Nat) (m : Nat → ByteArray) : Prop :=
  l = 0 ∨ ∃ b off, a = some ⟨b, off, none⟩ ∧ B ≤ b ∧ b < w.heap.size ∧ ∀ j, j < l → w.cell? ⟨b, off + j, none⟩ = some (.string (m j))

/-- A slice of ints. -/
def IntRow (w : World) (B : Nat) (a : Option Addr) (l : Nat) (o : Nat → Int) : Prop :=
  l = 0 ∨ ∃ b off, a = some ⟨b, off, none⟩ ∧ B ≤ b ∧ b < w.heap.size ∧ ∀ j, j < l → w.cell? ⟨b, off + j, none⟩ = some (.int .i64 (o j))

/-- A slice that is nil is empty. -/
def NilOk (a : Option Addr) (l : Nat) : Prop := a = none → l = 0

/-- A slice of slices of strings: n j strings in the j-th. -/
def ListRow (w : World) (B : Nat) (a : Option Addr) (l : Nat) (n : Nat → Nat) (M : Nat → Nat → ByteArray) : Prop :=
  l = 0 ∨ ∃ b off, a = some ⟨b, off, none⟩ ∧ B ≤ b ∧ b < w.heap.size ∧ ∀ j, j < l → ∃ aj cj, w.cell? ⟨b, off + j, none⟩ = some (.slice aj (n j) cj) ∧ StrRow w B aj (n j) (M j) ∧ NilOk aj (n j)

/-- The call gives back a bool; where it says yes, p holds. -/
def BoolSo (p : Prop) (e : Ending) : Prop := ∃ r, e = .returned (.bool r) ∧ (r = true → p)
theorem boolSo_no {p : Prop} : BoolSo p (.returned (.bool false)) := ⟨_, rfl, fun h => by cases h⟩
theorem boolSo_yes {p : Prop} (h : p) : BoolSo p (.returned (.bool true)) := ⟨_, rfl, fun _ => h⟩
/-- The call gives back an int, whichever. -/
def AnyInt (e : Ending) : Prop := ∃ z, e = .returned (.int .i64 z)
theorem anyInt (z : Int) : AnyInt (.returned (.int .i64 z)) := ⟨z, rfl⟩

/-- zzsAddStrings. -/
theorem addStrings_any (t : Int) (a : Option Addr) (l c : Nat) (m : Nat → ByteArray) (w : World) (hl : l ≤ maxLen) (hr : StrRow w 0 a l m) :
    Calls Try.prog 13 #[.int .i64 t, .slice a l c] w fun e w' => AnyInt e ∧ w = w' := by
  unfold maxLen at hl
  have HR := hid hr
  clear hr
  go_enter Try.func13, Try.ntmps13
  go_wp2
  go_loop [0, 5] (fun z i => ∃ (k : Nat) (y : Int), k ≤ l ∧ i = .int .i64 k ∧ z = .int .i64 y) (fun _ i => l - (intOf i).toNat)
  case atStart => exact ⟨0, _, Nat.zero_le _, rfl, rfl⟩
  case round =>
    obtain ⟨k, y, hk, rfl, rfl⟩ := hrel
    by_cases hlt : k < l
    · rcases HR.out with h0 | ⟨b, off, ha, _, hb, hc⟩
      · omega
      subst ha
      have hck := hc k hlt
      clear hc
      go_wp2
      any_goals (go_ret; exact ⟨anyInt _, rfl⟩)
      go_round
      case rel => exact ⟨k + 1, _, by omega, by go_num, rfl⟩
      case measure => simp [intOf]; omega
    · go_wp2
      go_ret
      exact ⟨anyInt _, rfl⟩

/-- slices.Index: where, or -1; and slices.Contains. -/
def hasStr (m : Nat → ByteArray) (v : ByteArray) : Nat → Bool
  | 0 => false
  | k + 1 => hasStr m v k || (v.toList == (m k).toList)

def IndexSo (b : Bool) (e : Ending) : Prop := ∃ z : Int, e = .returned (.int .i64 z) ∧ decide (0 ≤ z) = b

theorem hasStr_yes (m : Nat → ByteArray) (v : ByteArray) (k l : Nat) (hk : k < l) (h : (v.toList == (m k).toList) = true) : hasStr m v l = true := by
  induction l with
  | zero => omega
  | succ l ih =>
    by_cases e : k = l
    · subst e; simp [hasStr, h]
    · simp [hasStr, ih (by omega)]

theorem index_any (a : Option Addr) (l c : Nat) (m : Nat → ByteArray) (v : ByteArray) (w : World) (B : Nat) (hl : l ≤ maxLen) (hr : StrRow w B a l m) :
    Calls Try.prog 17 #[.slice a l c, .string v] w fun e w' => IndexSo (hasStr m v l) e ∧ w = w' := by
  unfold maxLen at hl
  have HR := hid hr
  clear hr
  go_enter Try.func17, Try.ntmps17
  go_wp2
  go_loop [8] (fun i => ∃ k : Nat, k ≤ l ∧ i = .int .i64 k ∧ Hid (hasStr m v k = false)) (fun i => l - (intOf i).toNat)
  case atStart => exact ⟨0, Nat.zero_le _, rfl, rfl⟩
  case round =>
    obtain ⟨k, hk, rfl, HN⟩ := hrel
    by_cases hlt : k < l
    · rcases HR.out with h0 | ⟨b, off, ha, _, hb, hc⟩
      · omega
      subst ha
      have hck := hc k hlt
      clear hc
      by_cases he : (v.toList == (m k).toList) = true
      · have HY := hid (hasStr_yes m v k l hlt he)
        go_wp2
        go_ret
        exact ⟨⟨_, rfl, by rw [HY.out]; simp⟩, rfl⟩
      · replace he := Bool.eq_false_iff.2 he
        have HN1 := hid (show hasStr m v (k + 1) = false by simp only [hasStr, HN.out, he]; rfl)
        go_wp2
        go_round
        case rel => exact ⟨k + 1, by omega, by go_num, HN1⟩
        case measure => simp [intOf]; omega
    · obtain rfl : k = l := by omega
      go_wp2
      go_ret
      exact ⟨⟨_, rfl, by rw [HN.out]; decide⟩, rfl⟩

theorem contains_any (a : Option Addr) (l c : Nat) (m : Nat → ByteArray) (v : ByteArray) (w : World) (B : Nat) (hl : l ≤ maxLen) (hr : StrRow w B a l m) :
    Calls Try.prog 16 #[.slice a l c, .string v] w fun e w' => e = .returned (.bool (hasStr m v l)) ∧ w = w' := by
  have HC := index_any a l c m v w B hl hr
  go_enter Try.func16, Try.ntmps16
  go_wp2_with fail
  refine HC.mono ?_
  clear HC
  rintro e w1 ⟨⟨z, rfl, hz⟩, rfl⟩
  have HZ := hid hz
  clear hz
  go_wp2
  go_ret
  exact ⟨by rw [← HZ.out]; rfl, rfl⟩

/-- zzsBytes: an int, whichever. -/
theorem sBytes_any (a0 : Option Addr) (l0 c0 : Nat) (m0 : Nat → ByteArray) (a1 : Option Addr) (l1 c1 : Nat) (a2 : Option Addr) (l2 c2 : Nat) (n2 : Nat → Nat) (m2 : Nat → Nat → ByteArray) (a3 : Option Addr) (l3 c3 : Nat) (m3 : Nat → ByteArray) (a4 : Option Addr) (l4 c4 : Nat) (m4 : Nat → ByteArray) (w : World)
    (hl0 : l0 ≤ 1048576) (hl1 : l1 ≤ 1048576) (hl2 : l2 ≤ 1048576) (hl3 : l3 ≤ 1048576) (hl4 : l4 ≤ 1048576) (hn2 : ∀ j, j < l2 → n2 j ≤ 1048576)
    (h0 : StrRow w 0 a0 l0 m0) (h2 : ListRow w 0 a2 l2 n2 m2) (h3 : StrRow w 0 a3 l3 m3) (h4 : StrRow w 0 a4 l4 m4) :
    Calls Try.prog 5 #[.slice a0 l0 c0, .slice a1 l1 c1, .slice a2 l2 c2, .slice a3 l3 c3, .slice a4 l4 c4] w fun e w' => AnyInt e ∧ w = w' := by
  have HL2 := hid h2
  have HN := hid hn2
  have C0 := hid (fun t => addStrings_any t a0 l0 c0 m0 w (by unfold maxLen; omega) h0)
  have C3 := hid (fun t => addStrings_any t a3 l3 c3 m3 w (by unfold maxLen; omega) h3)
  have C4 := hid (fun t => addStrings_any t a4 l4 c4 m4 w (by unfold maxLen; omega) h4)
  clear h0 h2 h3 h4 hn2
  have g0 : ¬ (1048576 : Int) < (l0 : Int) := by omega
  have g1 : ¬ (1048576 : Int) < (l1 : Int) := by omega
  have g2 : ¬ (1048576 : Int) < (l2 : Int) := by omega
  have g3 : ¬ (1048576 : Int) < (l3 : Int) := by omega
  have g4 : ¬ (1048576 : Int) < (l4 : Int) := by omega
  go_enter Try.func5, Try.ntmps5
  go_wp2_with fail
  any_goals (go_ret; exact ⟨anyInt _, rfl⟩)
  refine (C0.out _).mono ?_
  rintro e w1 ⟨⟨z0, rfl⟩, rfl⟩
  go_wp2_with fail
  any_goals (go_ret; exact ⟨anyInt _, rfl⟩)
  refine (C3.out _).mono ?_
  rintro e w1 ⟨⟨z3, rfl⟩, rfl⟩
  go_wp2_with fail
  any_goals (go_ret; exact ⟨anyInt _, rfl⟩)
  refine (C4.out _).mono ?_
  rintro e w1 ⟨⟨z4, rfl⟩, rfl⟩
  go_wp2
  go_loop [11, 12] (fun z i => ∃ (k : Nat) (y : Int), k ≤ l2 ∧ i = .int .i64 k ∧ z = .int .i64 y) (fun _ i => l2 - (intOf i).toNat)
  case atStart => exact ⟨0, _, Nat.zero_le _, rfl, rfl⟩
  case round =>
    obtain ⟨k, y, hk, rfl, rfl⟩ := hrel
    by_cases hlt : k < l2
    · by_cases hy : y ≤ 1048576
      · rcases HL2.out with hz | ⟨b, off, ha, _, hb, hc⟩
        · omega
        subst ha
        obtain ⟨aj, cj, hcj, hrj, _⟩ := hc k hlt
        have CJ := hid (fun t => addStrings_any t aj (n2 k) cj (m2 k) w (by have := HN.out k hlt; unfold maxLen; omega) hrj)
        clear hc hrj
        go_wp2_with fail
        refine (CJ.out _).mono ?_
        rintro e w1 ⟨⟨z5, rfl⟩, rfl⟩
        go_wp2
        go_round
        case rel => exact ⟨k + 1, _, by omega, by go_num, rfl⟩
        case measure => simp [intOf]; omega
      · go_wp2
        go_ret
        exact ⟨anyInt _, rfl⟩
    · go_wp2
      go_ret
      exact ⟨anyInt _, rfl⟩

/-- zzsDomain. -/
theorem domain_any (a0 : Option Addr) (l0 c0 : Nat) (a1 : Option Addr) (l1 c1 : Nat) (o1 : Nat → Int) (a2 : Option Addr) (l2 c2 : Nat) (a3 : Option Addr) (l3 c3 : Nat) (a4 : Option Addr) (l4 c4 : Nat) (w : World)
    (hl1 : l1 ≤ 1048576) (h1 : IntRow w 0 a1 l1 o1) :
    Calls Try.prog 6 #[.slice a0 l0 c0, .slice a1 l1 c1, .slice a2 l2 c2, .slice a3 l3 c3, .slice a4 l4 c4] w fun e w' => BoolSo (l1 = l0 ∧ l2 = l0 ∧ l4 = l3 ∧ ∀ j, j < l1 → 0 ≤ o1 j ∧ o1 j ≤ 3) e ∧ w = w' := by
  have HI := hid h1
  clear h1
  by_cases e1 : l1 = l0
  case neg =>
    have t1 : ((l1 : Int) != (l0 : Int)) = true := by simp; omega
    go_enter Try.func6, Try.ntmps6
    go_wp2
    go_ret
    exact ⟨boolSo_no, rfl⟩
  by_cases e2 : l2 = l0
  case neg =>
    have t1 : ((l1 : Int) != (l0 : Int)) = false := by simp; omega
    have t2 : ((l2 : Int) != (l0 : Int)) = true := by simp; omega
    clear e1
    go_enter Try.func6, Try.ntmps6
    go_wp2
    go_ret
    exact ⟨boolSo_no, rfl⟩
  by_cases e3 : l4 = l3
  case neg =>
    have t1 : ((l1 : Int) != (l0 : Int)) = false := by simp; omega
    have t2 : ((l2 : Int) != (l0 : Int)) = false := by simp; omega
    have t3 : ((l4 : Int) != (l3 : Int)) = true := by simp; omega
    clear e1 e2
    go_enter Try.func6, Try.ntmps6
    go_wp2
    go_ret
    exact ⟨boolSo_no, rfl⟩
  subst e1 e2 e3
  go_enter Try.func6, Try.ntmps6
  go_wp2
  go_loop [11] (fun i => ∃ k : Nat, k ≤ l2 ∧ i = .int .i64 k ∧ Hid (∀ j, j < k → 0 ≤ o1 j ∧ o1 j ≤ 3)) (fun i => l2 - (intOf i).toNat)
  case atStart => exact ⟨0, Nat.zero_le _, rfl, fun j hj => by omega⟩
  case round =>
    obtain ⟨k, hk, rfl, HN⟩ := hrel
    by_cases hlt : k < l2
    · rcases HI.out with h0 | ⟨b, off, ha, _, hb, hc⟩
      · omega
      subst ha
      have hck := hc k hlt
      clear hc
      by_cases hlo : o1 k < 0
      · go_wp2
        go_ret
        exact ⟨boolSo_no, rfl⟩
      by_cases hhi : 3 < o1 k
      · go_wp2
        go_ret
        exact ⟨boolSo_no, rfl⟩
      have HN1 := hid (show ∀ j, j < k + 1 → 0 ≤ o1 j ∧ o1 j ≤ 3 from fun j hj => by
        by_cases e : j = k
        · subst e; omega
        · exact HN.out j (by omega))
      go_wp2
      go_round
      case rel => exact ⟨k + 1, by omega, by go_num, HN1⟩
      case measure => simp [intOf]; omega
    · obtain rfl : k = l2 := by omega
      go_wp2
      go_ret
      exact ⟨boolSo_yes (by simpa using HN.out), rfl⟩

/-- What zzBytes promises where it says yes. -/
structure Small (l0 l1 l2 l3 l4 : Nat) (n2 : Nat → Nat) : Prop where
  b0 : l0 ≤ 1048576
  b1 : l1 ≤ 1048576
  b2 : l2 ≤ 1048576
  b3 : l3 ≤ 1048576
  b4 : l4 ≤ 1048576
  bn : ∀ j, j < l2 → n2 j ≤ 1048576

set_option maxRecDepth 100000 in
set_option maxHeartbeats 2000000 in
theorem bytes_any (a0 : Option Addr) (l0 c0 : Nat) (m0 : Nat → ByteArray) (a1 : Option Addr) (l1 c1 : Nat) (a2 : Option Addr) (l2 c2 : Nat) (n2 : Nat → Nat) (m2 : Nat → Nat → ByteArray) (a3 : Option Addr) (l3 c3 : Nat) (m3 : Nat → ByteArray) (a4 : Option Addr) (l4 c4 : Nat) (m4 : Nat → ByteArray) (w : World)
    (hl0 : l0 ≤ maxLen) (hl1 : l1 ≤ maxLen) (hl2 : l2 ≤ maxLen) (hl3 : l3 ≤ maxLen) (hl4 : l4 ≤ maxLen) (hn2 : ∀ j, j < l2 → n2 j ≤ maxLen)
    (h0 : StrRow w 0 a0 l0 m0) (h2 : ListRow w 0 a2 l2 n2 m2) (h3 : StrRow w 0 a3 l3 m3) (h4 : StrRow w 0 a4 l4 m4) :
    Calls Try.prog 4 #[.slice a0 l0 c0, .slice a1 l1 c1, .slice a2 l2 c2, .slice a3 l3 c3, .slice a4 l4 c4] w fun e w' => BoolSo (Small l0 l1 l2 l3 l4 n2) e ∧ w = w' := by
  unfold maxLen at hl0 hl1 hl2 hl3 hl4 hn2
  have H0 := hid h0
  have H2 := hid h2
  have H3 := hid h3
  have H4 := hid h4
  have HN := hid hn2
  clear h0 h2 h3 h4 hn2
  go_enter Try.func4, Try.ntmps4
  go_wp2
  any_goals (go_ret; exact ⟨boolSo_no, rfl⟩)
  go_loop [11, 12] (fun z i => ∃ (k : Nat) (y : Int), k ≤ l0 ∧ i = .int .i64 k ∧ z = .int .i64 y ∧ 0 ≤ y ∧ y ≤ 1048576) (fun _ i => l0 - (intOf i).toNat)
  case atStart => exact ⟨0, _, Nat.zero_le _, rfl, rfl, by omega, by omega⟩
  case round =>
    obtain ⟨k, y, hk, rfl, rfl, hy0, hy1⟩ := hrel
    by_cases hlt : k < l0
    · rcases H0.out with hz | ⟨b, off, ha, _, hb, hc⟩
      · omega
      subst ha
      have hck := hc k hlt
      clear hc
      go_wp2
      any_goals (go_ret; exact ⟨boolSo_no, rfl⟩)
      go_round
      case rel => exact ⟨k + 1, _, by omega, by go_num, rfl, by omega, by omega⟩
      case measure => simp [intOf]; omega
    go_wp2
    any_goals (go_ret; exact ⟨boolSo_no, rfl⟩)
    go_loop [11, 13] (fun z i => ∃ (k : Nat) (y : Int), k ≤ l2 ∧ i = .int .i64 k ∧ z = .int .i64 y ∧ 0 ≤ y ∧ y ≤ 1048576 ∧ Hid (∀ j, j < k → n2 j ≤ 1048576)) (fun _ i => l2 - (intOf i).toNat)
    case atStart => exact ⟨0, _, Nat.zero_le _, rfl, rfl, by omega, by omega, fun j hj => by omega⟩
    case round =>
      clear hk hlt hy0 hy1
      obtain ⟨k2, y, hk, rfl, rfl, hy0, hy1, HB⟩ := hrel
      by_cases hlt : k2 < l2
      · rcases H2.out with hz | ⟨b, off, ha, _, hb, hc⟩
        · omega
        subst ha
        obtain ⟨aj, cj, hcj, hrj, _⟩ := hc k2 hlt
        have HRJ := hid hrj
        have hnj := HN.out k2 hlt
        have HB' := hid (fun (h : (n2 k2 : Int) ≤ 1048576) => (show ∀ j, j < k2 + 1 → n2 j ≤ 1048576 from fun j hj => by
          by_cases e : j = k2
          · subst e; omega
          · exact HB.out j (by omega)))
        clear hc hrj
        generalize n2 k2 = nj at hcj HRJ hnj HB'
        go_wp2
        any_goals (go_ret; exact ⟨boolSo_no, rfl⟩)
        go_loop [11, 14] (fun z i => ∃ (k : Nat) (y : Int), k ≤ nj ∧ i = .int .i64 k ∧ z = .int .i64 y ∧ 0 ≤ y ∧ y ≤ 1048576) (fun _ i => nj - (intOf i).toNat)
        case atStart => exact ⟨0, _, Nat.zero_le _, rfl, rfl, by omega, by omega⟩
        case round =>
          clear hy0 hy1
          obtain ⟨q, y, hq, rfl, rfl, hy0, hy1⟩ := hrel
          by_cases hltq : q < nj
          · rcases HRJ.out with hz | ⟨b', off', ha', _, hb', hc'⟩
            · omega
            subst ha'
            have hcq := hc' q hltq
            clear hc'
            go_wp2
            any_goals (go_ret; exact ⟨boolSo_no, rfl⟩)
            go_round
            case rel => exact ⟨q + 1, _, by omega, by go_num, rfl, by omega, by omega⟩
            case measure => simp [intOf]; omega
          go_wp2
          go_round
          case rel => exact ⟨k2 + 1, _, by omega, by go_num, rfl, by omega, by omega, HB'.out (by omega)⟩
          case measure => simp [intOf]; omega
      obtain rfl : k2 = l2 := by omega
      go_wp2
      any_goals (go_ret; exact ⟨boolSo_no, rfl⟩)
      go_loop [11, 15] (fun z i => ∃ (k : Nat) (y : Int), k ≤ l3 ∧ i = .int .i64 k ∧ z = .int .i64 y ∧ 0 ≤ y ∧ y ≤ 1048576) (fun _ i => l3 - (intOf i).toNat)
      case atStart => exact ⟨0, _, Nat.zero_le _, rfl, rfl, by omega, by omega⟩
      case round =>
        clear hy0 hy1
        obtain ⟨k3, y, hk3, rfl, rfl, hy0, hy1⟩ := hrel
        by_cases hlt3 : k3 < l3
        · rcases H3.out with hz | ⟨b, off, ha, _, hb, hc⟩
          · omega
          subst ha
          have hck := hc k3 hlt3
          clear hc
          go_wp2
          any_goals (go_ret; exact ⟨boolSo_no, rfl⟩)
          go_round
          case rel => exact ⟨k3 + 1, _, by omega, by go_num, rfl, by omega, by omega⟩
          case measure => simp [intOf]; omega
        go_wp2
        any_goals (go_ret; exact ⟨boolSo_no, rfl⟩)
        go_loop [11, 16] (fun z i => ∃ (k : Nat) (y : Int), k ≤ l4 ∧ i = .int .i64 k ∧ z = .int .i64 y ∧ 0 ≤ y ∧ y ≤ 1048576) (fun _ i => l4 - (intOf i).toNat)
        case atStart => exact ⟨0, _, Nat.zero_le _, rfl, rfl, by omega, by omega⟩
        case round =>
          clear hy0 hy1
          obtain ⟨k4, y, hk4, rfl, rfl, hy0, hy1⟩ := hrel
          by_cases hlt4 : k4 < l4
          · rcases H4.out with hz | ⟨b, off, ha, _, hb, hc⟩
            · omega
            subst ha
            have hck := hc k4 hlt4
            clear hc
            go_wp2
            any_goals (go_ret; exact ⟨boolSo_no, rfl⟩)
            go_round
            case rel => exact ⟨k4 + 1, _, by omega, by go_num, rfl, by omega, by omega⟩
            case measure => simp [intOf]; omega
          have HS := hid (Small.mk (by omega) (by omega) (by omega) (by omega) (by omega) HB.out : Small l0 l1 k2 l3 l4 n2)
          go_wp2
          go_ret
          exact ⟨boolSo_yes HS.out, rfl⟩

end Go.Proofs.Qxb6605776a.Se
