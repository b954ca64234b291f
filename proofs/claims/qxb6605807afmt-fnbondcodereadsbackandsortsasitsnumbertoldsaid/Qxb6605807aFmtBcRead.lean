/-
  THE WALKS of zzReadBond (7) and FnBondCodeReadsBackAndSortsAsItsNumber (4).
-/
import Derived.Test.Qxb6605807aFmtBcPlain
namespace Go.Proofs.Qxb6605807aFmt.Bc
open Go.RowKit Go.Kit Go.Extern.Stop Go.Stop Go.Extern

theorem hid {p : Prop} (h : p) : Hid p := h

/-- What has been read of the number behind k bytes. -/
def val (n k : Nat) : Nat := n / 10 ^ (9 - k)

set_option maxRecDepth 100000 in
set_option maxHeartbeats 1000000 in
theorem read_walk (x : ByteArray) (n : Nat) (hn : n ≤ 99999) (hs : x.size = 9) (w : World) (p0 : 0 < x.size) (p1 : 1 < x.size) (p2 : 2 < x.size) (p3 : 3 < x.size)
    (t0 : (((x[0]'p0).toNat : Int) != 105) = false) (t1 : (((x[1]'p1).toNat : Int) != 98) = false) (t2 : (((x[2]'p2).toNat : Int) != 50) = false) (t3 : (((x[3]'p3).toNat : Int) != 54) = false)
    (hd : ∀ k, 4 ≤ k → (h : k < x.size) → ((x[k]'h).toNat : Int) = 48 + ((n / 10 ^ (8 - k) % 10 : Nat) : Int)) :
    Calls Tryf.prog 7 #[.string x] w fun e w' => e = .returned (.tuple #[.int .i64 n, .bool true]) ∧ w = w' := by
  have HS := hid hs
  have HD := hid hd
  have s9 : ((x.size : Int) != 9) = false := by simp; omega
  clear hd hs
  go_enter Tryf.func7, Tryf.ntmps7
  go_wp2
  go_loop [4, 5] (fun v i => ∃ k : Nat, 4 ≤ k ∧ k ≤ 9 ∧ i = .int .i64 k ∧ v = .int .i64 (val n k : Nat)) (fun _ i => 9 - (intOf i).toNat)
  case atStart => exact ⟨4, by omega, by omega, rfl, by simp [val]; omega⟩
  case round =>
    obtain ⟨k, hk4, hk9, rfl, rfl⟩ := hrel
    have hv : val n k ≤ 99999 := Nat.le_trans (Nat.div_le_self _ _) hn
    by_cases hlt : k < 9
    · have hkx : k < x.size := by rw [HS.out]; exact hlt
      have hm : n / 10 ^ (8 - k) % 10 < 10 := Nat.mod_lt _ (by omega)
      have b1 : (48 : Int) ≤ ((x[k]'hkx).toNat : Int) := by rw [HD.out k hk4 hkx]; omega
      have b2 : ((x[k]'hkx).toNat : Int) ≤ 57 := by rw [HD.out k hk4 hkx]; omega
      have HV : Hid (((val n (k + 1) : Nat) : Int) = ((val n k : Nat) : Int) * 10 + (((x[k]'hkx).toNat : Int) - 48)) := by
        show _ = _
        rw [HD.out k hk4 hkx]
        have h1 : 9 - (k + 1) = 8 - k := by omega
        have h2 : 9 - k = (8 - k) + 1 := by omega
        simp only [val, h1, h2, Nat.pow_succ, ← Nat.div_div_eq_div_mul]
        omega
      clear hm
      go_wp2
      go_round
      case rel => exact ⟨k + 1, by omega, by omega, by go_num, by rw [HV.out]⟩
      case measure => simp [intOf]; omega
    obtain rfl : k = 9 := by omega
    go_wp2
    go_ret2
    exact ⟨by simp [val], rfl⟩

theorem code_byte (n : Nat) (h : n ≤ 99999) (k : Nat) (hk : k < (code (n : Int)).size) (b : UInt8) (hb : ([105, 98, 50, 54] ++ five n)[k]? = some b) : ((code (n : Int))[k]'hk).toNat = b.toNat := by
  have h1 := code_at n h k hk
  rw [hb] at h1
  rw [Option.some.inj h1]

theorem read_any (n : Nat) (hn : n ≤ 99999) (w : World) : Calls Tryf.prog 7 #[.string (code (n : Int))] w fun e w' => e = .returned (.tuple #[.int .i64 n, .bool true]) ∧ w = w' := by
  have hs := code_size n hn
  refine read_walk (code (n : Int)) n hn hs w (by omega) (by omega) (by omega) (by omega) ?_ ?_ ?_ ?_ ?_
  · rw [code_byte n hn 0 (by omega) 105 rfl]; decide
  · rw [code_byte n hn 1 (by omega) 98 rfl]; decide
  · rw [code_byte n hn 2 (by omega) 50 rfl]; decide
  · rw [code_byte n hn 3 (by omega) 54 rfl]; decide
  · intro k hk h
    rw [hs] at h
    rcases (show k = 4 ∨ k = 5 ∨ k = 6 ∨ k = 7 ∨ k = 8 by omega) with rfl | rfl | rfl | rfl | rfl
    · rw [code_byte n hn 4 (by omega) (dg n 4) rfl, dg_toNat]; omega
    · rw [code_byte n hn 5 (by omega) (dg n 3) rfl, dg_toNat]; omega
    · rw [code_byte n hn 6 (by omega) (dg n 2) rfl, dg_toNat]; omega
    · rw [code_byte n hn 7 (by omega) (dg n 1) rfl, dg_toNat]; omega
    · rw [code_byte n hn 8 (by omega) (dg n 0) rfl, dg_toNat]; omega

set_option maxHeartbeats 1000000 in
theorem walk4 (F : Interp) (i j : Int) (hi : (Lit.int .i64 i).wf = true) (hj : (Lit.int .i64 j).wf = true) (w : World) (hF : F.told.answers w.tape) :
    Calls Tryf.prog 4 #[.int .i64 i, .int .i64 j] w fun e w' => e = .returned (.bool true) ∧ Below w.heap.size w w' := by
  have HI := hid hi
  have HJ := hid hj
  have HF := hid hF
  clear hi hj hF
  by_cases i0 : i < 0
  · go_enter Tryf.func4, Tryf.ntmps4
    go_wp2
    go_ret
    exact ⟨rfl, Below.refl _ _⟩
  by_cases i1 : 99999 < i
  · go_enter Tryf.func4, Tryf.ntmps4
    go_wp2
    go_ret
    exact ⟨rfl, Below.refl _ _⟩
  by_cases j0 : j < 0
  · go_enter Tryf.func4, Tryf.ntmps4
    go_wp2
    go_ret
    exact ⟨rfl, Below.refl _ _⟩
  by_cases j1 : 99999 < j
  · go_enter Tryf.func4, Tryf.ntmps4
    go_wp2
    go_ret
    exact ⟨rfl, Below.refl _ _⟩
  obtain ⟨n, rfl⟩ : ∃ n : Nat, i = n := ⟨i.toNat, by omega⟩
  obtain ⟨m, rfl⟩ : ∃ m : Nat, j = m := ⟨j.toNat, by omega⟩
  have hn : n ≤ 99999 := by omega
  have hm : m ≤ 99999 := by omega
  have HL := hid (less_code n m hn hm)
  have HE := hid (same_code n m hn hm)
  go_enter Tryf.func4, Tryf.ntmps4
  go_wp2_with fail
  refine (bond_any F n w HI.out HF.out).mono ?_
  rintro e w1 ⟨rfl, hb1⟩
  go_wp2_with fail
  refine (bond_any F m w1 HJ.out (by rw [hb1.tape]; exact HF.out)).mono ?_
  rintro e w2 ⟨rfl, hb2⟩
  have B := hb1.trans (hb2.mono hb1.size)
  have R1 := hid (read_any n hn)
  have R2 := hid (read_any m hm)
  generalize code (n : Int) = cn at HL HE R1
  generalize code (m : Int) = cm at HL HE R2
  go_wp2_with fail
  refine (R1.out _).mono ?_
  rintro e w3 ⟨rfl, rfl⟩
  go_wp2_with fail
  refine (R2.out _).mono ?_
  rintro e w3 ⟨rfl, rfl⟩
  have hl := HL.out
  have he := HE.out
  go_wp2
  go_ret
  exact ⟨rfl, B⟩

end Go.Proofs.Qxb6605807aFmt.Bc
