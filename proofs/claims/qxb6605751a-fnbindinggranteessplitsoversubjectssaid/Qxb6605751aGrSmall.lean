/-
  THE WALKS of the small callees of FnBindingGranteesSplitsOverSubjects.
-/
import Derived.Test.Qxb6605751aRows
import Derived.WalkKit
import Derived.WalkSpells
import Derived.WalkLawsBesides
import Derived.Deep.QuietTactic
import Derived.BigQuiet
namespace Go.Proofs.Qxb6605751a.Gr
open Go.RowKit

/-- One subject: its four strings. -/
structure Sub where
  kind : ByteArray
  group : ByteArray
  name : ByteArray
  ns : ByteArray

/-- Four cells in memory that hold a subject. -/
structure SubAt (w : World) (b o : Nat) (x : Sub) : Prop where
  c0 : w.cell? ⟨b, o, none⟩ = some (.string x.kind)
  c1 : w.cell? ⟨b, o + 1, none⟩ = some (.string x.group)
  c2 : w.cell? ⟨b, o + 2, none⟩ = some (.string x.name)
  c3 : w.cell? ⟨b, o + 3, none⟩ = some (.string x.ns)

/-- A subject whose strings are short. -/
structure Short (x : Sub) : Prop where
  s0 : x.kind.size ≤ 1048576
  s1 : x.group.size ≤ 1048576
  s2 : x.name.size ≤ 1048576
  s3 : x.ns.size ≤ 1048576

/-- A slice of subjects: empty, or its cells lie behind an address. -/
def SubRow (w : World) (a : Option Addr) (len : Nat) (s : Nat → Sub) : Prop :=
  len = 0 ∨ ∃ b off, a = some ⟨b, off, none⟩ ∧ b < w.heap.size ∧ ∀ j, j < len → SubAt w b (off + j * 4) (s j)

theorem subBytes_any (x : Sub) (hs : Short x) (w : World) :
    Calls Try.prog 9 #[.agg #[.string x.kind, .string x.group, .string x.name, .string x.ns]] w fun e w' => ∃ z : Int, e = .returned (.int .i64 z) ∧ 0 ≤ z ∧ z ≤ 4194304 ∧ Below w.heap.size w w' := by
  obtain ⟨h0, h1, h2, h3⟩ := hs
  go_enter Try.func9, Try.ntmps9
  go_wp2
  go_ret
  exact ⟨_, rfl, by omega, by omega, (Below.refl _ _).alloc (Nat.le_refl _) _⟩

/-- The call gives back a bool; where it says yes, p holds. -/
def BoolSo (p : Prop) (e : Ending) : Prop := ∃ r, e = .returned (.bool r) ∧ (r = true → p)
theorem boolSo_no {p : Prop} : BoolSo p (.returned (.bool false)) := ⟨_, rfl, fun h => by cases h⟩
theorem boolSo_yes {p : Prop} (h : p) : BoolSo p (.returned (.bool true)) := ⟨_, rfl, fun _ => h⟩

/-- The first k subjects are short. -/
def Shorts (s : Nat → Sub) (k : Nat) : Prop := ∀ j, j < k → Short (s j)
theorem shorts_zero (s : Nat → Sub) : Shorts s 0 := fun j hj => by omega
theorem shorts_succ {s : Nat → Sub} {k : Nat} (h : Shorts s k) (hk : Short (s k)) : Shorts s (k + 1) := by
  intro j hj
  by_cases e : j = k
  · subst e; exact hk
  · exact h j (by omega)

set_option maxRecDepth 100000 in
set_option maxHeartbeats 1000000 in
theorem bytes_any (a0 : Option Addr) (l0 cap0 : Nat) (s0 : Nat → Sub) (a1 : Option Addr) (l1 cap1 : Nat) (s1 : Nat → Sub) (w : World) (hl0 : l0 ≤ maxLen) (hl1 : l1 ≤ maxLen) (hr0 : SubRow w a0 l0 s0) (hr1 : SubRow w a1 l1 s1) :
    Calls Try.prog 8 #[.slice a0 l0 cap0, .slice a1 l1 cap1] w fun e w' => BoolSo (Shorts s0 l0 ∧ Shorts s1 l1) e ∧ w = w' := by
  unfold maxLen at hl0 hl1
  have H0 : Hid (SubRow w a0 l0 s0) := hr0
  have H1 : Hid (SubRow w a1 l1 s1) := hr1
  clear hr0 hr1
  go_enter Try.func8, Try.ntmps8
  go_wp2
  any_goals (go_ret; exact ⟨boolSo_no, rfl⟩)
  go_loop [5, 6] (fun z i => ∃ k : Nat, ∃ y : Int, k ≤ l0 ∧ i = .int .i64 k ∧ z = .int .i64 y ∧ 0 ≤ y ∧ y ≤ 1048576 ∧ Shorts s0 k) (fun _ i => l0 - (intOf i).toNat)
  case atStart => exact ⟨0, _, Nat.zero_le _, rfl, rfl, by omega, by omega, shorts_zero _⟩
  case round =>
    obtain ⟨k, y, hk, rfl, rfl, hy0, hy1, hH⟩ := hrel
    by_cases hlt : k < l0
    · rcases H0.out with h0 | ⟨b, off, ha, hb, hc⟩
      · omega
      subst ha
      obtain ⟨c0, c1, c2, c3⟩ := hc k hlt
      clear hc
      go_wp2
      any_goals (go_ret; exact ⟨boolSo_no, rfl⟩)
      go_round
      case rel => exact ⟨k + 1, _, by omega, by go_num, rfl, by omega, by omega, shorts_succ hH ⟨by omega, by omega, by omega, by omega⟩⟩
      case measure => simp [intOf]; omega
    obtain rfl : k = l0 := by omega
    have HS0 : Hid (Shorts s0 k) := hH
    clear hH
    go_wp2
    any_goals (go_ret; exact ⟨boolSo_no, rfl⟩)
    go_loop [5, 7] (fun z i => ∃ k : Nat, ∃ y : Int, k ≤ l1 ∧ i = .int .i64 k ∧ z = .int .i64 y ∧ 0 ≤ y ∧ y ≤ 1048576 ∧ Shorts s1 k) (fun _ i => l1 - (intOf i).toNat)
    case atStart => exact ⟨0, _, Nat.zero_le _, rfl, rfl, by omega, by omega, shorts_zero _⟩
    case round =>
      obtain ⟨q, z, hq, rfl, rfl, hz0, hz1, hH⟩ := hrel
      by_cases hlt1 : q < l1
      · rcases H1.out with h1 | ⟨b, off, ha, hb, hc⟩
        · omega
        subst ha
        obtain ⟨c0, c1, c2, c3⟩ := hc q hlt1
        clear hc
        go_wp2
        any_goals (go_ret; exact ⟨boolSo_no, rfl⟩)
        go_round
        case rel => exact ⟨q + 1, _, by omega, by go_num, rfl, by omega, by omega, shorts_succ hH ⟨by omega, by omega, by omega, by omega⟩⟩
        case measure => simp [intOf]; omega
      obtain rfl : q = l1 := by omega
      have HS1 : Hid (Shorts s1 q) := hH
      clear hH
      go_wp2
      go_ret
      exact ⟨boolSo_yes ⟨HS0.out, HS1.out⟩, rfl⟩

/-! zzIsGroupGrantee: three ways. -/
theorem isGroup_short (x : ByteArray) (h : x.size < 6) (w : World) : Calls Try.prog 12 #[.string x] w fun e w' => e = .returned (.bool false) ∧ w = w' := by
  have h6 : ¬ (6 : Int) ≤ (x.size : Int) := by omega
  go_enter Try.func12, Try.ntmps12
  go_wp2
  go_ret
  exact ⟨rfl, rfl⟩

theorem isGroup_no (x : ByteArray) (h : 6 ≤ x.size) (h0 : ((x[0]'(by omega)).toNat : Int) ≠ 103) (w : World) : Calls Try.prog 12 #[.string x] w fun e w' => e = .returned (.bool false) ∧ w = w' := by
  have h6 : (6 : Int) ≤ (x.size : Int) := by omega
  have hp : (0 : Int) < (x.size : Int) := by omega
  have hp0 : 0 < x.size := by omega
  have e0 : (((x[0]'(by omega)).toNat : Int) == 103) = false := by simpa using h0
  go_enter Try.func12, Try.ntmps12
  go_wp2
  go_ret
  exact ⟨rfl, rfl⟩

theorem isGroup_yes (x : ByteArray) (h : 6 ≤ x.size) (w : World)
    (e0 : (((x[0]'(by omega)).toNat : Int) == 103) = true) (e1 : (((x[1]'(by omega)).toNat : Int) == 114) = true) (e2 : (((x[2]'(by omega)).toNat : Int) == 111) = true)
    (e3 : (((x[3]'(by omega)).toNat : Int) == 117) = true) (e4 : (((x[4]'(by omega)).toNat : Int) == 112) = true) (e5 : (((x[5]'(by omega)).toNat : Int) == 58) = true) :
    Calls Try.prog 12 #[.string x] w fun e w' => e = .returned (.bool true) ∧ w = w' := by
  have h6 : (6 : Int) ≤ (x.size : Int) := by omega
  have hp0 : 0 < x.size := by omega
  have hp1 : 1 < x.size := by omega
  have hp2 : 2 < x.size := by omega
  have hp3 : 3 < x.size := by omega
  have hp4 : 4 < x.size := by omega
  have hp5 : 5 < x.size := by omega
  go_enter Try.func12, Try.ntmps12
  go_wp2
  go_ret
  exact ⟨rfl, rfl⟩

theorem user_any (x : ByteArray) (h : x.size ≤ 10000000) (w : World) : Calls Try.prog 14 #[.string x] w fun e w' => e = .returned (.string (⟨#[117, 115, 101, 114, 58]⟩ ++ x)) ∧ w = w' := by
  go_enter Try.func14, Try.ntmps14
  go_wp2
  go_ret
  exact ⟨rfl, rfl⟩

theorem group_any (x : ByteArray) (h : x.size ≤ 10000000) (w : World) : Calls Try.prog 15 #[.string x] w fun e w' => e = .returned (.string (⟨#[103, 114, 111, 117, 112, 58]⟩ ++ x)) ∧ w = w' := by
  go_enter Try.func15, Try.ntmps15
  go_wp2
  go_ret
  exact ⟨rfl, rfl⟩

/-- 'system:serviceaccount:' -/
def saHead : ByteArray := ⟨#[115, 121, 115, 116, 101, 109, 58, 115, 101, 114, 118, 105, 99, 101, 97, 99, 99, 111, 117, 110, 116, 58]⟩

theorem sa_any (x y : ByteArray) (h : x.size ≤ 2000000) (h' : y.size ≤ 2000000) (w : World) : Calls Try.prog 16 #[.string x, .string y] w fun e w' => e = .returned (.string (saHead ++ x ++ ⟨#[58]⟩ ++ y)) ∧ w = w' := by
  go_enter Try.func16, Try.ntmps16
  go_wp2
  go_ret
  exact ⟨rfl, rfl⟩

end Go.Proofs.Qxb6605751a.Gr
