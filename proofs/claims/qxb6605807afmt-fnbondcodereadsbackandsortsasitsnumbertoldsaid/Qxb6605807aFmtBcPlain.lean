/-
  PLAIN: the code of a number from 0 to 99999: four letters and five digits.
-/
import Derived.Test.Qxb6605807aFmtBcCode
namespace Go.Proofs.Qxb6605807aFmt.Bc
open Go.Extern.Stop Go.Stop Go.Extern

def dg (n k : Nat) : UInt8 := UInt8.ofNat (48 + n / 10 ^ k % 10)
/-- Five digits. -/
def five (n : Nat) : List UInt8 := [dg n 4, dg n 3, dg n 2, dg n 1, dg n 0]

theorem dec_small {u : Nat} (h : u < 10) : Lib.decDigits u = [UInt8.ofNat (48 + u)] := Lib.decDigits_one h
theorem dec_big {u : Nat} (h : ¬ u < 10) : Lib.decDigits u = Lib.decDigits (u / 10) ++ [UInt8.ofNat (48 + u % 10)] := by rw [Lib.decDigits, dif_neg h]

theorem zeros_five (n : Nat) (h : n ≤ 99999) : FmtText.zeros 5 (n : Int) = five n := by
  have e : FmtText.zeros 5 (n : Int) = List.replicate (5 - (Lib.decDigits n).length) 48 ++ Lib.decDigits n := by
    rw [FmtText.zeros, if_neg (by omega)]
    simp
  rw [e]
  have h48 : (48 : UInt8) = UInt8.ofNat (48 + 0) := rfl
  by_cases h1 : n < 10
  · rw [dec_small h1]
    simp only [List.length_cons, List.length_nil, five, dg]
    rw [show n / 10 ^ 4 % 10 = 0 by omega, show n / 10 ^ 3 % 10 = 0 by omega, show n / 10 ^ 2 % 10 = 0 by omega, show n / 10 ^ 1 % 10 = 0 by omega, show n / 10 ^ 0 % 10 = n by omega]
    rfl
  by_cases h2 : n < 100
  · rw [dec_big h1, dec_small (show n / 10 < 10 by omega)]
    simp only [List.length_append, List.length_cons, List.length_nil, five, dg]
    rw [show n / 10 ^ 4 % 10 = 0 by omega, show n / 10 ^ 3 % 10 = 0 by omega, show n / 10 ^ 2 % 10 = 0 by omega, show n / 10 ^ 1 % 10 = n / 10 by omega, show n / 10 ^ 0 % 10 = n % 10 by omega]
    rfl
  by_cases h3 : n < 1000
  · rw [dec_big h1, dec_big (show ¬ n / 10 < 10 by omega), dec_small (show n / 10 / 10 < 10 by omega)]
    simp only [List.length_append, List.length_cons, List.length_nil, five, dg]
    rw [show n / 10 ^ 4 % 10 = 0 by omega, show n / 10 ^ 3 % 10 = 0 by omega, show n / 10 ^ 2 % 10 = n / 10 / 10 by omega, show n / 10 ^ 1 % 10 = n / 10 % 10 by omega, show n / 10 ^ 0 % 10 = n % 10 by omega]
    rfl
  by_cases h4 : n < 10000
  · rw [dec_big h1, dec_big (show ¬ n / 10 < 10 by omega), dec_big (show ¬ n / 10 / 10 < 10 by omega), dec_small (show n / 10 / 10 / 10 < 10 by omega)]
    simp only [List.length_append, List.length_cons, List.length_nil, five, dg]
    rw [show n / 10 ^ 4 % 10 = 0 by omega, show n / 10 ^ 3 % 10 = n / 10 / 10 / 10 by omega, show n / 10 ^ 2 % 10 = n / 10 / 10 % 10 by omega, show n / 10 ^ 1 % 10 = n / 10 % 10 by omega, show n / 10 ^ 0 % 10 = n % 10 by omega]
    rfl
  · rw [dec_big h1, dec_big (show ¬ n / 10 < 10 by omega), dec_big (show ¬ n / 10 / 10 < 10 by omega), dec_big (show ¬ n / 10 / 10 / 10 < 10 by omega), dec_small (show n / 10 / 10 / 10 / 10 < 10 by omega)]
    simp only [List.length_append, List.length_cons, List.length_nil, five, dg]
    rw [show n / 10 ^ 4 % 10 = n / 10 / 10 / 10 / 10 by omega, show n / 10 ^ 3 % 10 = n / 10 / 10 / 10 % 10 by omega, show n / 10 ^ 2 % 10 = n / 10 / 10 % 10 by omega, show n / 10 ^ 1 % 10 = n / 10 % 10 by omega, show n / 10 ^ 0 % 10 = n % 10 by omega]
    rfl

theorem code_list (n : Nat) (h : n ≤ 99999) : (code (n : Int)).data.toList = [105, 98, 50, 54] ++ five n := by
  simp [code, codeText, zeros_five n h]

theorem dg_toNat (n k : Nat) : (dg n k).toNat = 48 + n / 10 ^ k % 10 := by
  have : n / 10 ^ k % 10 < 10 := Nat.mod_lt _ (by omega)
  simp only [dg, UInt8.toNat_ofNat']
  omega

theorem dg_lt (n m k : Nat) : (dg n k < dg m k) ↔ n / 10 ^ k % 10 < m / 10 ^ k % 10 := by
  rw [UInt8.lt_iff_toNat_lt, dg_toNat, dg_toNat]
  omega
theorem dg_eq (n m k : Nat) : (dg n k = dg m k) ↔ n / 10 ^ k % 10 = m / 10 ^ k % 10 := by
  constructor
  · intro h
    have := congrArg UInt8.toNat h
    rw [dg_toNat, dg_toNat] at this
    omega
  · intro h
    simp only [dg, h]

theorem digits_of (n : Nat) (h : n ≤ 99999) : n = n / 10 ^ 4 % 10 * 10000 + n / 10 ^ 3 % 10 * 1000 + n / 10 ^ 2 % 10 * 100 + n / 10 ^ 1 % 10 * 10 + n / 10 ^ 0 % 10 := by omega

theorem lex_five (a4 a3 a2 a1 a0 b4 b3 b2 b1 b0 n m : Nat) (ha3 : a3 < 10) (ha2 : a2 < 10) (ha1 : a1 < 10) (ha0 : a0 < 10) (hb3 : b3 < 10) (hb2 : b2 < 10) (hb1 : b1 < 10) (hb0 : b0 < 10)
    (hn : n = a4 * 10000 + a3 * 1000 + a2 * 100 + a1 * 10 + a0) (hm : m = b4 * 10000 + b3 * 1000 + b2 * 100 + b1 * 10 + b0) :
    (a4 < b4 ∨ a4 = b4 ∧ (a3 < b3 ∨ a3 = b3 ∧ (a2 < b2 ∨ a2 = b2 ∧ (a1 < b1 ∨ a1 = b1 ∧ a0 < b0)))) ↔ n < m := by
  rcases Nat.lt_trichotomy a4 b4 with h | h | h
  · exact ⟨fun _ => by omega, fun _ => .inl h⟩
  · rcases Nat.lt_trichotomy a3 b3 with g | g | g
    · exact ⟨fun _ => by omega, fun _ => .inr ⟨h, .inl g⟩⟩
    · rcases Nat.lt_trichotomy a2 b2 with f | f | f
      · exact ⟨fun _ => by omega, fun _ => .inr ⟨h, .inr ⟨g, .inl f⟩⟩⟩
      · constructor
        · intro _; omega
        · intro _; exact .inr ⟨h, .inr ⟨g, .inr ⟨f, by omega⟩⟩⟩
      · constructor
        · intro _; omega
        · intro _; omega
    · constructor
      · intro _; omega
      · intro _; omega
  · constructor
    · intro _; omega
    · intro _; omega

theorem less_code (n m : Nat) (hn : n ≤ 99999) (hm : m ≤ 99999) : Op.bytesLess (code (n : Int)).toList (code (m : Int)).toList = decide ((n : Int) < (m : Int)) := by
  rw [ByteArray.toList_eq, ByteArray.toList_eq, code_list n hn, code_list m hm, Bool.eq_iff_iff]
  have hl := lex_five _ _ _ _ _ _ _ _ _ _ n m (Nat.mod_lt (n / 10 ^ 3) (by omega)) (Nat.mod_lt (n / 10 ^ 2) (by omega)) (Nat.mod_lt (n / 10 ^ 1) (by omega)) (Nat.mod_lt (n / 10 ^ 0) (by omega)) (Nat.mod_lt (m / 10 ^ 3) (by omega)) (Nat.mod_lt (m / 10 ^ 2) (by omega)) (Nat.mod_lt (m / 10 ^ 1) (by omega)) (Nat.mod_lt (m / 10 ^ 0) (by omega)) (digits_of n hn) (digits_of m hm)
  simp only [five, List.cons_append, List.nil_append, Op.bytesLess, Bool.or_eq_true, Bool.and_eq_true, decide_eq_true_eq, beq_iff_eq, dg_lt, dg_eq, UInt8.lt_irrefl, false_or, true_and, Bool.false_eq_true, and_false, or_false]
  rw [hl]
  omega

theorem same_code (n m : Nat) (hn : n ≤ 99999) (hm : m ≤ 99999) : ((code (n : Int)).toList == (code (m : Int)).toList) = ((n : Int) == (m : Int)) := by
  rw [ByteArray.toList_eq, ByteArray.toList_eq, code_list n hn, code_list m hm, Bool.eq_iff_iff]
  simp [five, dg_eq]
  omega

/-- The bytes of a code, one by one. -/
theorem code_size (n : Nat) (h : n ≤ 99999) : (code (n : Int)).size = 9 := by
  have := congrArg List.length (code_list n h)
  simpa [five] using this

theorem code_at (n : Nat) (h : n ≤ 99999) (k : Nat) (hk : k < (code (n : Int)).size) : some ((code (n : Int))[k]'hk) = ([105, 98, 50, 54] ++ five n)[k]? := by
  rw [← code_list n h]
  have hk' : k < (code (n : Int)).data.toList.length := by simpa using hk
  rw [List.getElem?_eq_getElem hk']
  rfl

end Go.Proofs.Qxb6605807aFmt.Bc
