/-
  THE WALKS of the callees of FnCloseMembersClosesAppendedMembers: zzBytes (5), zzSameBytes (7), closeMembers (13), ZZcloseMembers (6).
-/
import Derived.Test.Qxb6605751aRows
import Derived.WalkKit
import Derived.WalkSpells
import Derived.WalkLawsBesides
import Derived.Deep.QuietTactic
import Derived.BigQuiet
import Derived.Room.AppendFits
import Derived.Test.Qxb6605751aCmPlain
namespace Go.Proofs.Qxb6605751a.Cm
open Go.RowKit

/-- A slice of strings as the walk sees it: empty, or its cells lie behind an address. -/
def StrRow (w : World) (a : Option Addr) (len : Nat) (m : Nat → ByteArray) : Prop :=
  len = 0 ∨ ∃ b off, a = some ⟨b, off, none⟩ ∧ b < w.heap.size ∧ ∀ j, j < len → w.cell? ⟨b, off + j, none⟩ = some (.string (m j))

/-- The call gives back a bool; where it says yes, p holds. -/
def BoolSo (p : Prop) (e : Ending) : Prop := ∃ r, e = .returned (.bool r) ∧ (r = true → p)
theorem boolSo_no {p : Prop} : BoolSo p (.returned (.bool false)) := ⟨_, rfl, fun h => by cases h⟩
theorem boolSo_yes {p : Prop} (h : p) : BoolSo p (.returned (.bool true)) := ⟨_, rfl, fun _ => h⟩

set_option maxHeartbeats 400000 in
theorem bytes_any (a0 : Option Addr) (len0 cap0 : Nat) (a1 : Option Addr) (len1 cap1 : Nat) (m : Nat → ByteArray) (w : World) (hl : len1 ≤ maxLen) (hr : StrRow w a1 len1 m) :
    Calls Try.prog 5 #[.slice a0 len0 cap0, .slice a1 len1 cap1] w fun e w' => BoolSo (∀ j, j < len1 → (m j).size ≤ 1048576) e ∧ w = w' := by
  unfold maxLen at hl
  rcases hr with rfl | ⟨b, off, rfl, hb, hc⟩
  · go_enter Try.func5, Try.ntmps5
    go_wp2
    any_goals (go_ret; exact ⟨boolSo_no, rfl⟩)
    go_loop [5, 6] (fun z i => ∃ y : Int, i = .int .i64 0 ∧ z = .int .i64 y) (fun _ _ => 0)
    case atStart => exact ⟨_, rfl, rfl⟩
    case round =>
      obtain ⟨y, rfl, rfl⟩ := hrel
      go_wp2
      go_ret
      exact ⟨boolSo_yes (by simp), rfl⟩
  · go_enter Try.func5, Try.ntmps5
    go_wp2
    any_goals (go_ret; exact ⟨boolSo_no, rfl⟩)
    go_loop [5, 6] (fun z i => ∃ k : Nat, ∃ y : Int, k ≤ len1 ∧ i = .int .i64 k ∧ z = .int .i64 y ∧ 0 ≤ y ∧ y ≤ 1048576 ∧ Hid (∀ j, j < k → (m j).size ≤ 1048576)) (fun _ i => len1 - (intOf i).toNat)
    case atStart => exact ⟨0, _, Nat.zero_le _, rfl, rfl, by omega, by omega, fun j hj => by omega⟩
    case round =>
      obtain ⟨k, y, hk, rfl, rfl, hy0, hy1, hH⟩ := hrel
      by_cases hlt : k < len1
      · have hck := hc k hlt
        go_wp2
        any_goals (go_ret; exact ⟨boolSo_no, rfl⟩)
        go_round
        case rel => exact ⟨k + 1, _, by omega, by go_num, rfl, by omega, by omega, fun j hj => by by_cases e : j = k; (subst e; omega); exact hH.out j (by omega)⟩
        case measure => simp [intOf]; omega
      · go_wp2
        go_ret
        exact ⟨boolSo_yes (fun j hj => hH.out j (by omega)), rfl⟩

/-- Two rows of the call's own that hold the same bytes. -/
theorem same_any (g1 g2 n c1 c2 : Nat) (f : Nat → Int) (w : World) (hn : n ≤ maxLen)
    (h1 : ∀ j, j < n → w.cell? ⟨g1, j, none⟩ = some (.int .u8 (f j))) (h2 : ∀ j, j < n → w.cell? ⟨g2, j, none⟩ = some (.int .u8 (f j))) :
    Calls Try.prog 7 #[.slice (some ⟨g1, 0, none⟩) n c1, .slice (some ⟨g2, 0, none⟩) n c2] w fun e w' => e = .returned (.bool true) ∧ Below w.heap.size w w' := by
  unfold maxLen at hn
  go_enter Try.func7, Try.ntmps7
  go_wp2
  go_loopw [5] (fun i wr => ∃ k q : Nat, k ≤ n ∧ i = .int .i64 k ∧ wr = w.drewN q) (fun i _ => n - (intOf i).toNat)
  case atStart => exact ⟨0, 0, Nat.zero_le _, rfl, rfl⟩
  case round =>
    obtain ⟨k, q, hk, rfl, rfl⟩ := hrel
    by_cases hlt : k < n
    · have hc1 := h1 k hlt
      have hc2 := h2 k hlt
      have hki : (k : Int) < (n : Int) := by omega
      go_wp2
      go_quiet (fail)
      go_wp2
      go_roundw
      case rel => exact ⟨k + 1, _, by omega, by go_num, rfl⟩
      case measure => simp [intOf]; omega
    · go_wp2
      go_ret
      exact ⟨rfl, below_drewN (Below.refl _ _) _⟩

theorem Try.info5 : (Try.prog.info? 5).map (fun i => (i.zero, i.size, i.bytes)) = some (some (.int .u8 0), 1, 1) := by kernel_rfl

/-- The new row's value is no nil one where something is owned. -/
theorem own_shape {w : World} {base e n : Nat} {v : Value} {xs : List Value} (h : w.ownsRow base e 1 v n xs) (hn : 0 < n) : ∃ g cap, v = .slice (some ⟨g, 0, none⟩) n cap ∧ base ≤ g ∧ g < w.heap.size := by
  rcases h.2 with ⟨_, h0⟩ | ⟨g, cap, cur, hv, hb, hg, _⟩
  · omega
  · refine ⟨g, cap, hv, hb, ?_⟩
    by_cases hs : g < w.heap.size
    · exact hs
    · rw [Array.getElem?_eq_none (by omega)] at hg; cases hg

/-- No member: '{}' is appended. -/
theorem close_none (base g n cap : Nat) (xs : List Value) (w : World) (hn : n ≤ 2000000) (hbase : base ≤ w.heap.size) (hown : w.ownsRow base 5 1 (.slice (some ⟨g, 0, none⟩) n cap) n xs) :
    Calls Try.prog 13 #[.slice (some ⟨g, 0, none⟩) n cap, .int .i64 n] w fun e w' => ∃ v', e = .returned v' ∧ w'.ownsRow base 5 1 v' (n + 2) (xs ++ (one 123 ++ one 125)) ∧ w.grownBy w' (some g) := by
  obtain ⟨i0, hi, hz0, hz1, hz2⟩ := info_parts Try.info5
  go_enter Try.func13, Try.ntmps13
  go_wp2_with (at_builtin; refine Lib.wpList_append_own_string _ rfl (.tmp 9) _ 22 9 rfl base 5 i0 Try.underlying22 Try.underlying9 hi hz0 hz1 hz2 _ n xs rfl hown ⟨#[123, 125]⟩ rfl ?c1 ?c2 hbase ?_)
  case c1 => unfold maxLen; show n + 2 ≤ _; omega
  case c2 => show n + 2 ≤ _; omega
  intro v' w1 hown1 hgrow1 _
  go_wp2
  go_ret
  exact ⟨_, rfl, hown1, hgrow1⟩

/-- Members: the byte at the opening is turned, a brace appended. -/
theorem close_some (base g n o cap : Nat) (xs : List Value) (w : World) (hn : n ≤ 2000000) (ho : o < n) (hbase : base ≤ w.heap.size) (hown : w.ownsRow base 5 1 (.slice (some ⟨g, 0, none⟩) n cap) n xs) :
    Calls Try.prog 13 #[.slice (some ⟨g, 0, none⟩) n cap, .int .i64 o] w fun e w' => ∃ v', e = .returned v' ∧ w'.ownsRow base 5 1 v' (n + 1) (xs.set o (.int .u8 123) ++ one 125) ∧ w.grownBy w' (some g) := by
  obtain ⟨i0, hi, hz0, hz1, hz2⟩ := info_parts Try.info5
  have hoi : (o : Int) < (n : Int) := by omega
  have hxl : xs.length = n := by simpa using hown.1
  have hcell : w.cell? ⟨g, o, none⟩ = some (xs[o]'(by omega)) := by rw [hown.cellAt o (by omega)]; simp [hxl, ho]
  have hfr := hown.frozenAt o
  have hst := hown.stored o (.int .u8 123)
  have HS : Hid _ := hst
  clear hst hown
  go_enter Try.func13, Try.ntmps13
  go_wp2_with (at_builtin; refine wpList_append_own _ rfl (.tmp 14) (.tmp 15) 22 rfl base 5 i0 (.int .u8 0) 1 1 Try.underlying22 hi hz0 hz1 hz2 rfl (by decide) _ n _ rfl (HS.out.1.alloc _) ⟨w.heap.size, 0, none⟩ 1 1 (one 125) rfl rfl ?c1 ?c2 ?c3 ?c4 ?c5 ?_)
  case c1 =>
    have := cell_one_new (w.setCell ⟨g, o, none⟩ (.int .u8 123)) (.int .u8 125) 5
    rw [World.size_setCell] at this
    exact this
  case c2 => intro u hu; simp [one] at hu; subst hu; rfl
  case c3 => unfold maxLen; omega
  case c4 => omega
  case c5 => simp; omega
  intro v' w1 hown1 hgrow1 _
  go_wp2
  go_ret
  exact ⟨_, rfl, hown1, (HS.out.2.trans (World.grownBy_alloc _ _ _)).trans hgrow1⟩

/-- ZZcloseMembers hands on. -/
theorem zz_none (base g n o cap : Nat) (xs : List Value) (w : World) (hno : n = o) (hn : n ≤ 2000000) (hbase : base ≤ w.heap.size) (hown : w.ownsRow base 5 1 (.slice (some ⟨g, 0, none⟩) n cap) n xs) :
    Calls Try.prog 6 #[.slice (some ⟨g, 0, none⟩) n cap, .int .i64 o] w fun e w' => ∃ v' n', e = .returned v' ∧ w'.ownsRow base 5 1 v' n' (xs ++ (one 123 ++ one 125)) ∧ w.grownBy w' (some g) := by
  subst hno
  go_enter Try.func6, Try.ntmps6
  go_wp2_with (go_at_call 13; refine (close_none base g n cap xs w hn hbase hown).mono ?_; rintro e w1 ⟨v1, rfl, ho1, hg1⟩)
  go_ret
  exact ⟨_, _, rfl, ho1, hg1⟩

theorem zz_some (base g n o cap : Nat) (xs : List Value) (w : World) (hn : n ≤ 2000000) (ho : o < n) (hbase : base ≤ w.heap.size) (hown : w.ownsRow base 5 1 (.slice (some ⟨g, 0, none⟩) n cap) n xs) :
    Calls Try.prog 6 #[.slice (some ⟨g, 0, none⟩) n cap, .int .i64 o] w fun e w' => ∃ v' n', e = .returned v' ∧ w'.ownsRow base 5 1 v' n' (xs.set o (.int .u8 123) ++ one 125) ∧ w.grownBy w' (some g) := by
  go_enter Try.func6, Try.ntmps6
  go_wp2_with (go_at_call 13; refine (close_some base g n o cap xs w hn ho hbase hown).mono ?_; rintro e w1 ⟨v1, rfl, ho1, hg1⟩)
  go_ret
  exact ⟨_, _, rfl, ho1, hg1⟩

/-- A list of bytes, read by its places. -/
def byteAt (xs : List Value) (j : Nat) : Int := match xs[j]? with | some (.int _ z) => z | _ => 0
theorem byteAt_of {xs : List Value} (h : Bytes xs) {j : Nat} (hj : j < xs.length) : xs[j]? = some (.int .u8 (byteAt xs j)) := by
  obtain ⟨z, hz⟩ := h xs[j] (List.getElem_mem hj)
  have e : xs[j]? = some (.int .u8 z) := by rw [List.getElem?_eq_getElem hj, hz]
  rw [e]
  simp [byteAt, e]

/-- Two values that own the same bytes are the same to zzSameBytes. -/
theorem same_rows (b1 b2 n1 n2 : Nat) (v1 v2 : Value) (xs : List Value) (w : World) (hn : n1 ≤ maxLen) (hpos : 0 < n1) (h1 : w.ownsRow b1 5 1 v1 n1 xs) (h2 : w.ownsRow b2 5 1 v2 n2 xs) (hby : Bytes xs) :
    Calls Try.prog 7 #[v1, v2] w fun e w' => e = .returned (.bool true) ∧ Below w.heap.size w w' := by
  have e1 : xs.length = n1 := by simpa using h1.1
  have e2 : xs.length = n2 := by simpa using h2.1
  obtain rfl : n1 = n2 := by omega
  obtain ⟨g1, c1, rfl, _⟩ := own_shape h1 hpos
  obtain ⟨g2, c2, rfl, _⟩ := own_shape h2 hpos
  exact same_any g1 g2 n1 c1 c2 (byteAt xs) w hn (fun j hj => by rw [h1.cellAt j (by omega)]; exact byteAt_of hby (by omega)) (fun j hj => by rw [h2.cellAt j (by omega)]; exact byteAt_of hby (by omega))

end Go.Proofs.Qxb6605751a.Cm
