/-
  WHAT Grantees COMPUTES (plain), AND THE WALK of (*Binding).Grantees (11).
-/
import Derived.Test.Qxb6605751aGrBind
namespace Go.Proofs.Qxb6605751a.Gr
open Go.RowKit

def uHead : ByteArray := ⟨#[117, 115, 101, 114, 58]⟩
def gHead : ByteArray := ⟨#[103, 114, 111, 117, 112, 58]⟩

/-- The grantee of one subject, if it has one, with the mark 'a group'. -/
def ent (x : Sub) : List (Bool × ByteArray) :=
  if (x.kind.toList == [85, 115, 101, 114]) = true then [(false, uHead ++ x.name)]
  else if (x.kind.toList == [71, 114, 111, 117, 112]) = true then [(true, gHead ++ x.name)]
  else if (x.kind.toList == [83, 101, 114, 118, 105, 99, 101, 65, 99, 99, 111, 117, 110, 116]) = true then [(false, uHead ++ (saHead ++ x.ns ++ ⟨#[58]⟩ ++ x.name))]
  else []

def ents (s : Nat → Sub) : Nat → List (Bool × ByteArray)
  | 0 => []
  | k + 1 => ents s k ++ ent (s k)

/-- How many grantees the first k subjects have. -/
def EL (s : Nat → Sub) (k : Nat) : Nat := (ents s k).length
/-- The grantees of the first k subjects, as cells. -/
def EC (s : Nat → Sub) (k : Nat) : List Value := (ents s k).map fun p => Value.string p.2

theorem ent_le (x : Sub) : (ent x).length ≤ 1 := by unfold ent; split; simp; split; simp; split <;> simp
theorem EL_le (s : Nat → Sub) (k : Nat) : EL s k ≤ k := by
  induction k with
  | zero => simp [EL, ents]
  | succ k ih => have := ent_le (s k); simp only [EL, ents, List.length_append] at *; omega

theorem EL_some (s : Nat → Sub) (k : Nat) (p : Bool × ByteArray) (h : ent (s k) = [p]) : EL s (k + 1) = EL s k + 1 := by simp [EL, ents, h]
theorem EC_some (s : Nat → Sub) (k : Nat) (p : Bool × ByteArray) (h : ent (s k) = [p]) : EC s (k + 1) = EC s k ++ [Value.string p.2] := by simp [EC, ents, h]
theorem EL_none (s : Nat → Sub) (k : Nat) (h : ent (s k) = []) : EL s (k + 1) = EL s k := by simp [EL, ents, h]
theorem EC_none (s : Nat → Sub) (k : Nat) (h : ent (s k) = []) : EC s (k + 1) = EC s k := by simp [EC, ents, h]

theorem two_new (w : World) (o : Obj) (x : Value) (t : TypeId) : ∀ j u, [x][j]? = some u → ((w.alloc o).alloc (.cells #[x] t)).cell? ((⟨w.heap.size + 1, 0, none⟩ : Addr).add j) = some u := by
  have := cell_one_new (w.alloc o) x t
  rw [World.size_alloc] at this
  exact this

theorem str_one (x : ByteArray) : ∀ u ∈ [Value.string x], u.oneCell' = true := by
  intro u hu
  simp at hu
  subst hu
  rfl

/-- The round's end, where a grantee was appended. -/
theorem grant_step {w wr w2 : World} {o1 o2 : Obj} {s : Nat → Sub} {k n : Nat} {p : Bool × ByteArray} (he : ent (s k) = [p]) (hbr : Below w.heap.size w wr)
    (hown : w2.ownsRow w.heap.size 9 1 (.slice (some ⟨w.heap.size, 0, none⟩) (EL s k + 1) n) (EL s k + 1) (EC s k ++ [Value.string p.2])) (hg : ((wr.alloc o1).alloc o2).grownBy w2 (some w.heap.size)) :
    w2.ownsRow w.heap.size 9 1 (.slice (some ⟨w.heap.size, 0, none⟩) (EL s (k + 1)) n) (EL s (k + 1)) (EC s (k + 1)) ∧ Below w.heap.size w w2 := by
  rw [EL_some s k p he, EC_some s k p he]
  refine ⟨hown, ?_⟩
  have h1 := hbr.alloc hbr.size o1
  have h2 := h1.alloc h1.size o2
  exact h2.grown hg h2.size (fun _ h => by cases h; exact Nat.le_refl _)

theorem Try.info9 : (Try.prog.info? 9).map (fun i => (i.zero, i.size, i.bytes)) = some (some (.string ⟨#[]⟩), 1, 16) := by kernel_rfl

set_option maxRecDepth 100000 in
set_option maxHeartbeats 1000000 in
theorem grant_any (p n : Nat) (s : Nat → Sub) (w : World) (hn : n ≤ 100000) (hp : p < w.heap.size) (hb : BindingAt w p n s) (hs : Shorts s n) :
    Calls Try.prog 11 #[.pointer (some ⟨p, 0, none⟩)] w fun e w' => e = .returned (.slice (some ⟨w.heap.size, 0, none⟩) (EL s n) n) ∧ w'.ownsRow w.heap.size 9 1 (.slice (some ⟨w.heap.size, 0, none⟩) (EL s n) n) (EL s n) (EC s n) ∧ Below w.heap.size w w' := by
  obtain ⟨a, c, hcp, hrow⟩ := hb
  obtain ⟨i0, hi, hz0, hz1, hz2⟩ := info_parts Try.info9
  have HR := hid hrow
  have HS := hid hs
  clear hrow hs
  go_enter Try.func11, Try.ntmps11
  go_wp2_with (at_make; refine wpList_make_own _ rfl _ _ 23 rfl w.heap.size 9 i0 (.string ⟨#[]⟩) 1 Try.underlying23 hi hz0 hz1 _ _ _ n rfl rfl rfl ?b2 ?b3 ?b4 ?_)
  case b2 => rw [hz2]; omega
  case b3 => unfold maxLen; omega
  case b4 => exact Nat.le_refl _
  intro w1 hown1 hg1
  have hb1 : Below w.heap.size w w1 := (Below.refl _ _).grown hg1 (Nat.le_refl _) (fun _ h => by cases h)
  have hcp1 : w1.cell? ⟨p, 0, none⟩ = some (.slice a n c) := (hb1.cell (by exact hp)).trans hcp
  clear hg1
  go_wp2
  go_loopw [3, 17] (fun v i wr => ∃ k : Nat, k ≤ n ∧ i = .int .i64 k ∧ v = .slice (some ⟨w.heap.size, 0, none⟩) (EL s k) n ∧ wr.ownsRow w.heap.size 9 1 (.slice (some ⟨w.heap.size, 0, none⟩) (EL s k) n) (EL s k) (EC s k) ∧ Below w.heap.size w wr) (fun _ i _ => n - (intOf i).toNat)
  case atStart => exact ⟨0, Nat.zero_le _, rfl, rfl, hown1, hb1⟩
  case round =>
    obtain ⟨k, hk, rfl, rfl, hownr, hbr⟩ := hrel
    have HO := hid hownr
    clear hownr
    by_cases hlt : k < n
    · rcases HR.out with h0 | ⟨b, off, ha, hbb, hc⟩
      · omega
      subst ha
      obtain ⟨c0, c1, c2, c3⟩ := hc k hlt
      obtain ⟨s0, s1, s2, s3⟩ := HS.out k hlt
      have hle := EL_le s k
      clear hc
      have g0 : wr.cell? ⟨b, off + k * 4, none⟩ = some (.string (s k).kind) := (hbr.cell (by exact hbb)).trans c0
      have g1 : wr.cell? ⟨b, off + k * 4 + 1, none⟩ = some (.string (s k).group) := (hbr.cell (by exact hbb)).trans c1
      have g2 : wr.cell? ⟨b, off + k * 4 + 2, none⟩ = some (.string (s k).name) := (hbr.cell (by exact hbb)).trans c2
      have g3 : wr.cell? ⟨b, off + k * 4 + 3, none⟩ = some (.string (s k).ns) := (hbr.cell (by exact hbb)).trans c3
      clear c0 c1 c2 c3
      by_cases hu : ((s k).kind.toList == [85, 115, 101, 114]) = true
      · have HE := hid (show ent (s k) = [(false, uHead ++ (s k).name)] by rw [ent, if_pos hu])
        go_wp2_with (first | (go_at_call 14; refine (user_any _ (by omega) _).mono ?_; rintro e w' ⟨rfl, rfl⟩) | (at_builtin; refine wpList_append_fits _ rfl (.tmp 25) (.tmp 29) 23 rfl w.heap.size 9 i0 1 Try.underlying23 hi hz1 w.heap.size (EL s k) n (EC s k) rfl ((HO.out.alloc _).alloc _) ⟨wr.heap.size + 1, 0, none⟩ 1 1 [.string (uHead ++ (s k).name)] rfl rfl ?u1 ?u2 ?u3 ?_))
        case u1 => exact two_new _ _ _ _
        case u2 => exact str_one _
        case u3 => omega
        intro w2 hown2 hg2
        have R := hid (grant_step HE.out hbr hown2 hg2)
        clear hown2 hg2 HO g0 g1 g2 g3
        go_wp2
        go_roundw
        case rel => exact ⟨k + 1, by omega, by go_num, by rw [EL_some s k _ HE.out], R.out.1, R.out.2⟩
        case measure => simp [intOf]; omega
      by_cases hgr : ((s k).kind.toList == [71, 114, 111, 117, 112]) = true
      · have HE := hid (show ent (s k) = [(true, gHead ++ (s k).name)] by rw [ent, if_neg hu, if_pos hgr])
        replace hu := Bool.eq_false_iff.2 hu
        go_wp2_with (first | (go_at_call 15; refine (group_any _ (by omega) _).mono ?_; rintro e w' ⟨rfl, rfl⟩) | (at_builtin; refine wpList_append_fits _ rfl (.tmp 33) (.tmp 37) 23 rfl w.heap.size 9 i0 1 Try.underlying23 hi hz1 w.heap.size (EL s k) n (EC s k) rfl ((HO.out.alloc _).alloc _) ⟨wr.heap.size + 1, 0, none⟩ 1 1 [.string (gHead ++ (s k).name)] rfl rfl ?v1 ?v2 ?v3 ?_))
        case v1 => exact two_new _ _ _ _
        case v2 => exact str_one _
        case v3 => omega
        intro w2 hown2 hg2
        have R := hid (grant_step HE.out hbr hown2 hg2)
        clear hown2 hg2 HO g0 g1 g2 g3
        go_wp2
        go_roundw
        case rel => exact ⟨k + 1, by omega, by go_num, by rw [EL_some s k _ HE.out], R.out.1, R.out.2⟩
        case measure => simp [intOf]; omega
      by_cases hsa : ((s k).kind.toList == [83, 101, 114, 118, 105, 99, 101, 65, 99, 99, 111, 117, 110, 116]) = true
      · have HE := hid (show ent (s k) = [(false, uHead ++ (saHead ++ (s k).ns ++ ⟨#[58]⟩ ++ (s k).name))] by rw [ent, if_neg hu, if_neg hgr, if_pos hsa])
        replace hu := Bool.eq_false_iff.2 hu
        replace hgr := Bool.eq_false_iff.2 hgr
        have hsz : (saHead ++ (s k).ns ++ ⟨#[58]⟩ ++ (s k).name).size ≤ 10000000 := by
          simp only [ByteArray.size_append]
          have e1 : saHead.size = 22 := rfl
          have e2 : (⟨#[58]⟩ : ByteArray).size = 1 := rfl
          omega
        have HZ := hid hsz
        clear hsz
        go_wp2_with (first | (go_at_call 16; refine (sa_any _ _ (by omega) (by omega) _).mono ?_; rintro e w' ⟨rfl, rfl⟩) | (go_at_call 14; refine (user_any _ HZ.out _).mono ?_; rintro e w' ⟨rfl, rfl⟩) | (at_builtin; refine wpList_append_fits _ rfl (.tmp 41) (.tmp 48) 23 rfl w.heap.size 9 i0 1 Try.underlying23 hi hz1 w.heap.size (EL s k) n (EC s k) rfl ((HO.out.alloc _).alloc _) ⟨wr.heap.size + 1, 0, none⟩ 1 1 [.string (uHead ++ (saHead ++ (s k).ns ++ ⟨#[58]⟩ ++ (s k).name))] rfl rfl ?x1 ?x2 ?x3 ?_))
        case x1 => exact two_new _ _ _ _
        case x2 => exact str_one _
        case x3 => omega
        intro w2 hown2 hg2
        have R := hid (grant_step HE.out hbr hown2 hg2)
        clear hown2 hg2 HO g0 g1 g2 g3
        go_wp2
        go_roundw
        case rel => exact ⟨k + 1, by omega, by go_num, by rw [EL_some s k _ HE.out], R.out.1, R.out.2⟩
        case measure => simp [intOf]; omega
      · have HE := hid (show ent (s k) = [] by rw [ent, if_neg hu, if_neg hgr, if_neg hsa])
        replace hu := Bool.eq_false_iff.2 hu
        replace hgr := Bool.eq_false_iff.2 hgr
        replace hsa := Bool.eq_false_iff.2 hsa
        go_wp2
        have R := hid (show (wr.alloc (.cells #[.string (s k).kind, .string (s k).group, .string (s k).name, .string (s k).ns] 42)).ownsRow w.heap.size 9 1 (.slice (some ⟨w.heap.size, 0, none⟩) (EL s (k + 1)) n) (EL s (k + 1)) (EC s (k + 1)) by rw [EL_none s k HE.out, EC_none s k HE.out]; exact HO.out.alloc _)
        go_roundw
        case rel => exact ⟨k + 1, by omega, by go_num, by rw [EL_none s k HE.out], R.out, hbr.alloc hbr.size _⟩
        case measure => simp [intOf]; omega
    obtain rfl : k = n := by omega
    go_wp2
    go_ret
    exact ⟨rfl, HO.out, hbr⟩

end Go.Proofs.Qxb6605751a.Gr
