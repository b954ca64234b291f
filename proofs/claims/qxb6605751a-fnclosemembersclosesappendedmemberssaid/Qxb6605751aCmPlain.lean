/-
  PLAIN: no Go in sight: what FnCloseMembersClosesAppendedMembers writes, as lists of cells.
-/
import Derived.Lib.AppendStr
namespace Go.Proofs.Qxb6605751a.Cm
open Go.Lib (strCells strCells_length strCells_oneCell)

/-- One byte as a list of one cell. -/
def one (n : Int) : List Value := [Value.int .u8 n]

/-- What loop 2 has appended behind the prefix after k members: each behind a comma. -/
def cat (m : Nat → ByteArray) : Nat → List Value
  | 0 => []
  | k + 1 => cat m k ++ (one 44 ++ strCells (m k))

/-- What loop 3 has appended behind the brace after k members: a comma between each two. -/
def joined (m : Nat → ByteArray) : Nat → List Value
  | 0 => []
  | k + 1 => joined m k ++ ((if k = 0 then [] else one 44) ++ strCells (m k))

def tot (m : Nat → ByteArray) : Nat → Nat
  | 0 => 0
  | k + 1 => tot m k + ((m k).size + 1)

theorem cat_length (m : Nat → ByteArray) (k : Nat) : (cat m k).length = tot m k := by
  induction k with
  | zero => rfl
  | succ k ih => simp only [cat, tot, one, List.length_append, strCells_length, ih, List.length_cons, List.length_nil]; omega

theorem cat_joined (m : Nat → ByteArray) (k : Nat) : cat m (k + 1) = one 44 ++ joined m (k + 1) := by
  induction k with
  | zero => simp [cat, joined]
  | succ k ih =>
    show cat m (k + 1) ++ (one 44 ++ strCells (m (k + 1))) = one 44 ++ (joined m (k + 1) ++ ((if k + 1 = 0 then [] else one 44) ++ strCells (m (k + 1))))
    rw [ih]
    simp

theorem tot_mono (m : Nat → ByteArray) {j k : Nat} (h : j ≤ k) : tot m j ≤ tot m k := by
  induction k with
  | zero => have : j = 0 := by omega
            subst this; exact Nat.le_refl _
  | succ k ih =>
    by_cases e : j = k + 1
    · subst e; exact Nat.le_refl _
    · have := ih (by omega); show tot m j ≤ tot m k + ((m k).size + 1); omega

theorem joined_length (m : Nat → ByteArray) (k : Nat) : (joined m (k + 1)).length + 1 = tot m (k + 1) := by
  have := cat_length m (k + 1)
  rw [cat_joined] at this
  simp [one] at this
  omega

theorem joined_le (m : Nat → ByteArray) (k : Nat) : (joined m k).length ≤ tot m k := by
  cases k with
  | zero => simp [joined]
  | succ k => have := joined_length m k; omega

/-- The close of a list with members: the first comma turned to a brace. -/
theorem close_set (m : Nat → ByteArray) (pre : List Value) (k : Nat) :
    (pre ++ cat m (k + 1)).set pre.length (Value.int .u8 123) ++ one 125 = pre ++ one 123 ++ joined m (k + 1) ++ one 125 := by
  rw [cat_joined]
  simp [one]

/-- The length of 'want' behind the brace and i members. -/
def J (l0 : Nat) (m : Nat → ByteArray) (i : Nat) : Nat := l0 + 1 + (joined m i).length
theorem J_zero (l0 : Nat) (m : Nat → ByteArray) : J l0 m 0 = l0 + 1 := rfl
theorem J_one (l0 : Nat) (m : Nat → ByteArray) : J l0 m 1 = l0 + 1 + (m 0).size := by simp [J, joined, strCells_length]
theorem J_succ (l0 : Nat) (m : Nat → ByteArray) (i : Nat) (h : i ≠ 0) : J l0 m (i + 1) = J l0 m i + 1 + (m i).size := by
  simp [J, joined, strCells_length, h, one]
  omega
theorem joined_one (m : Nat → ByteArray) : joined m 1 = strCells (m 0) := by simp [joined]
theorem joined_succ (m : Nat → ByteArray) (i : Nat) (h : i ≠ 0) : joined m (i + 1) = joined m i ++ (one 44 ++ strCells (m i)) := by simp [joined, h]

/-- A list of bytes. -/
def Bytes (xs : List Value) : Prop := ∀ u ∈ xs, ∃ z, u = Value.int .u8 z
theorem Bytes.append {xs ys : List Value} (h : Bytes xs) (k : Bytes ys) : Bytes (xs ++ ys) := by
  intro u hu
  rcases List.mem_append.1 hu with h1 | h1
  · exact h u h1
  · exact k u h1
theorem bytes_nil : Bytes [] := fun u hu => by cases hu
theorem bytes_one (n : Int) : Bytes (one n) := fun u hu => ⟨n, by simpa [one] using hu⟩
theorem bytes_str (s : ByteArray) : Bytes (strCells s) := by
  intro u hu
  simp only [strCells, List.mem_map] at hu
  obtain ⟨b, _, rfl⟩ := hu
  exact ⟨_, rfl⟩
theorem bytes_joined (m : Nat → ByteArray) (k : Nat) : Bytes (joined m k) := by
  induction k with
  | zero => exact bytes_nil
  | succ k ih =>
    refine ih.append (Bytes.append ?_ (bytes_str _))
    split
    · exact bytes_nil
    · exact bytes_one _

end Go.Proofs.Qxb6605751a.Cm
