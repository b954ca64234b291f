/-
  THE WALK of FnBindingGranteesSplitsOverSubjects (4), its callees by their contracts.
-/
import Derived.Test.Qxb6605751aGrFlat
namespace Go.Proofs.Qxb6605751a.Gr
open Go.RowKit

theorem Try.info31 : (Try.prog.info? 31).map (fun i => (i.zero, i.size, i.bytes)) = some (some (.agg #[.string ⟨#[]⟩, .string ⟨#[]⟩, .string ⟨#[]⟩, .string ⟨#[]⟩]), 4, 64) := by kernel_rfl

/-- The cells of a slice of subjects, for an append. -/
theorem row_cells {w w' : World} {a : Option Addr} {l B : Nat} {s : Nat → Sub} (h : SubRow w a l s) (hB : w.heap.size ≤ B) (hb : Below B w w') : ∀ ad, a = some ad → ∀ j u, (flat s l)[j]? = some u → w'.cell? (ad.add j) = some u := by
  intro ad ha j u hu
  rcases SubRow.later h hB hb with h0 | ⟨b, off, hab, _, hc⟩
  · subst h0; simp [flat] at hu
  · rw [ha] at hab
    cases hab
    rw [Addr.add_lit]
    exact flat_cells hc j u hu

theorem strAt_a (k q : Nat) (sa sb : Nat → Sub) (i : Nat) (h : i < EL sa k) : strAt (ents (both k sa sb) (k + q)) i = strAt (ents sa k) i := by
  rw [ents_both, strAt, strAt, List.getElem?_append_left h]
theorem strAt_b (k q : Nat) (sa sb : Nat → Sub) (i : Nat) : strAt (ents (both k sa sb) (k + q)) (EL sa k + i) = strAt (ents sb q) i := by
  rw [ents_both, strAt, strAt, List.getElem?_append_right (by simp [EL])]
  simp [EL]

set_option maxRecDepth 100000 in
set_option maxHeartbeats 4000000 in
theorem walk (a0 : Option Addr) (l0 cap0 : Nat) (s0 : Nat → Sub) (a1 : Option Addr) (l1 cap1 : Nat) (s1 : Nat → Sub) (w : World) (hl0 : l0 ≤ maxLen) (hl1 : l1 ≤ maxLen)
    (hn0 : a0 = none → l0 = 0 ∧ cap0 = 0) (hn1 : a1 = none → l1 = 0 ∧ cap1 = 0) (hr0 : SubRow w a0 l0 s0) (hr1 : SubRow w a1 l1 s1) :
    Calls Try.prog 4 #[.slice a0 l0 cap0, .slice a1 l1 cap1] w fun e w' => e = .returned (.bool true) ∧ Below w.heap.size w w' := by
  have hb8 := bytes_any a0 l0 cap0 s0 a1 l1 cap1 s1 w hl0 hl1 hr0 hr1
  unfold maxLen at hl0 hl1
  have H0 := hid hr0
  have H1 := hid hr1
  have N0 := hid hn0
  have N1 := hid hn1
  clear hr0 hr1 hn0 hn1
  obtain ⟨i0, hi, hz0, hz1, hz2⟩ := info_parts Try.info31
  go_enter Try.func4, Try.ntmps4
  go_wp2_with fail
  refine hb8.mono ?_
  clear hb8
  rintro e w1 ⟨⟨r, rfl, hms⟩, rfl⟩
  cases r
  · go_wp2
    go_ret
    exact ⟨rfl, Below.refl _ _⟩
  have HS := hid (hms rfl)
  clear hms
  go_wp2
  any_goals (go_ret; exact ⟨rfl, Below.refl _ _⟩)
  go_loopw [5, 6] (fun z i wr => ∃ (k : Nat) (y : Int), k ≤ l0 ∧ i = .int .i64 k ∧ z = .int .i64 y ∧ 0 ≤ y ∧ y ≤ 1048576 ∧ Below w.heap.size w wr) (fun _ i _ => l0 - (intOf i).toNat)
  case atStart => exact ⟨0, _, Nat.zero_le _, rfl, rfl, by omega, by omega, Below.refl _ _⟩
  case round =>
    obtain ⟨k, y, hk, rfl, rfl, hy0, hy1, hbr⟩ := hrel
    by_cases hlt : k < l0
    · rcases H0.out with h0 | ⟨b, off, ha, hbb, hc⟩
      · omega
      subst ha
      obtain ⟨c0, c1, c2, c3⟩ := hc k hlt
      have hsh := HS.out.1 k hlt
      clear hc
      have g0 : wr.cell? ⟨b, off + k * 4, none⟩ = some (.string (s0 k).kind) := (hbr.cell (by exact hbb)).trans c0
      have g1 : wr.cell? ⟨b, off + k * 4 + 1, none⟩ = some (.string (s0 k).group) := (hbr.cell (by exact hbb)).trans c1
      have g2 : wr.cell? ⟨b, off + k * 4 + 2, none⟩ = some (.string (s0 k).name) := (hbr.cell (by exact hbb)).trans c2
      have g3 : wr.cell? ⟨b, off + k * 4 + 3, none⟩ = some (.string (s0 k).ns) := (hbr.cell (by exact hbb)).trans c3
      clear c0 c1 c2 c3
      go_wp2_with (go_at_call 9; refine (subBytes_any (s0 k) hsh _).mono ?_; rintro e w2 ⟨z, rfl, hz0', hz1', hb2⟩)
      any_goals (go_ret; exact ⟨rfl, hbr.trans (hb2.mono hbr.size)⟩)
      go_roundw
      case rel => exact ⟨k + 1, _, by omega, by go_num, rfl, by omega, by omega, hbr.trans (hb2.mono hbr.size)⟩
      case measure => simp [intOf]; omega
    obtain rfl : k = l0 := by omega
    go_wp2
    go_loopw [5, 7] (fun z i wx => ∃ (q : Nat) (y : Int), q ≤ l1 ∧ i = .int .i64 q ∧ z = .int .i64 y ∧ 0 ≤ y ∧ y ≤ 1048576 ∧ Below w.heap.size w wx) (fun _ i _ => l1 - (intOf i).toNat)
    case atStart => exact ⟨0, _, Nat.zero_le _, rfl, rfl, by omega, by omega, hbr⟩
    case round =>
      clear hbr
      obtain ⟨q, y, hq, rfl, rfl, hy0, hy1, hbr⟩ := hrel
      by_cases hlt : q < l1
      · rcases H1.out with h0 | ⟨b, off, ha, hbb, hc⟩
        · omega
        subst ha
        obtain ⟨c0, c1, c2, c3⟩ := hc q hlt
        have hsh := HS.out.2 q hlt
        clear hc
        have g0 : wr.cell? ⟨b, off + q * 4, none⟩ = some (.string (s1 q).kind) := (hbr.cell (by exact hbb)).trans c0
        have g1 : wr.cell? ⟨b, off + q * 4 + 1, none⟩ = some (.string (s1 q).group) := (hbr.cell (by exact hbb)).trans c1
        have g2 : wr.cell? ⟨b, off + q * 4 + 2, none⟩ = some (.string (s1 q).name) := (hbr.cell (by exact hbb)).trans c2
        have g3 : wr.cell? ⟨b, off + q * 4 + 3, none⟩ = some (.string (s1 q).ns) := (hbr.cell (by exact hbb)).trans c3
        clear c0 c1 c2 c3
        go_wp2_with (go_at_call 9; refine (subBytes_any (s1 q) hsh _).mono ?_; rintro e w2 ⟨z, rfl, hz0', hz1', hb2⟩)
        any_goals (go_ret; exact ⟨rfl, hbr.trans (hb2.mono hbr.size)⟩)
        go_roundw
        case rel => exact ⟨q + 1, _, by omega, by go_num, rfl, by omega, by omega, hbr.trans (hb2.mono hbr.size)⟩
        case measure => simp [intOf]; omega
      obtain rfl : q = l1 := by omega
      rename World => wm
      go_wp2_with (at_make; refine wpList_make_own _ rfl _ _ 27 rfl wm.heap.size 31 i0 (.agg #[.string ⟨#[]⟩, .string ⟨#[]⟩, .string ⟨#[]⟩, .string ⟨#[]⟩]) 4 Try.underlying27 hi hz0 hz1 _ _ _ (k + q) rfl rfl ?m1 ?m2 ?m3 ?m4 ?_)
      case m1 => omega
      case m2 => rw [hz2]; omega
      case m3 => unfold maxLen; omega
      case m4 => exact Nat.le_refl _
      intro w3 hown3 hg3
      have hb3 : Below w.heap.size w w3 := hbr.grown hg3 hbr.size (fun _ h => by cases h)
      have hs3 := hg3.size
      have hsm := hbr.size
      go_wp2_with (at_builtin; refine wpList_append_fits_any _ rfl (.tmp 77) (.tmp 78) 27 rfl wm.heap.size 31 i0 4 Try.underlying27 hi hz1 wm.heap.size 0 (k + q) [] rfl hown3 a0 k cap0 (flat s0 k) rfl ?n1 N0.out ?n2 (flat_one _ _) ?n3 ?_)
      case n1 => exact flat_length _ _
      case n2 => exact row_cells H0.out (Nat.le_refl _) hb3
      case n3 => omega
      intro w4 hown4 hg4
      have hb4 : Below w.heap.size w w4 := hb3.grown hg4 (by omega) (fun _ h => by cases h; omega)
      have hs4 := hg4.size
      clear hown3 hg3 hg4
      go_wp2_with (at_builtin; refine wpList_append_fits_any _ rfl (.tmp 80) (.tmp 81) 27 rfl wm.heap.size 31 i0 4 Try.underlying27 hi hz1 wm.heap.size k (k + q) _ rfl hown4 a1 q cap1 (flat s1 q) rfl ?o1 N1.out ?o2 (flat_one _ _) ?o3 ?_)
      case o1 => exact flat_length _ _
      case o2 => exact row_cells H1.out (Nat.le_refl _) hb4
      case o3 => omega
      intro w5 hown5 hg5
      have hb5 : Below w.heap.size w w5 := hb4.grown hg5 (by omega) (fun _ h => by cases h; omega)
      have hs5 := hg5.size
      have HAB : Hid (SubRow w5 (some ⟨wm.heap.size, 0, none⟩) (k + q) (both k s0 s1)) := own_row (by rw [flat_both]; exact hown5)
      have HSab := hid (shorts_both HS.out.1 HS.out.2)
      clear hown4 hown5 hg5 hb3 hb4
      have hk5 : k ≤ 16384 := by omega
      have hq5 : q ≤ 16384 := by omega
      go_wp2_with fail
      refine (bind_any a0 k cap0 s0 w5 (by omega) N0.out (SubRow.later H0.out (Nat.le_refl _) hb5)).mono ?_
      rintro e w6 ⟨p1, rfl, hba, hp1, hp1', hb6⟩
      have HBA := hid hba
      clear hba
      go_wp2_with fail
      refine (grant_any p1 k s0 w6 (by omega) hp1' HBA.out HS.out.1).mono ?_
      rintro e w7 ⟨rfl, hga, hb7⟩
      have HGA := hid hga
      have hb57 : Below w5.heap.size w5 w7 := hb6.trans (hb7.mono hb6.size)
      clear hga HBA
      go_wp2_with fail
      refine (bind_any a1 q cap1 s1 w7 (by omega) N1.out (SubRow.later H1.out (Nat.le_refl _) (hb5.trans (hb57.mono hb5.size)))).mono ?_
      rintro e w8 ⟨p2, rfl, hbb, hp2, hp2', hb8⟩
      have HBB := hid hbb
      clear hbb
      go_wp2_with fail
      refine (grant_any p2 q s1 w8 (by omega) hp2' HBB.out HS.out.2).mono ?_
      rintro e w9 ⟨rfl, hgb, hb9⟩
      have HGB := hid hgb
      have hb79 : Below w7.heap.size w7 w9 := hb8.trans (hb9.mono hb8.size)
      clear hgb HBB
      go_wp2_with fail
      refine (bind_any (some ⟨wm.heap.size, 0, none⟩) (k + q) (k + q) (both k s0 s1) w9 (by omega) (fun h => by cases h) (SubRow.later HAB.out (Nat.le_refl _) (hb57.trans (hb79.mono hb57.size)))).mono ?_
      rintro e w10 ⟨p3, rfl, hbab, hp3, hp3', hb10⟩
      have HBAB := hid hbab
      clear hbab
      go_wp2_with fail
      refine (grant_any p3 (k + q) (both k s0 s1) w10 (by omega) hp3' HBAB.out HSab.out).mono ?_
      rintro e w11 ⟨rfl, hgab, hb11⟩
      rw [EL_both] at hgab
      rw [EL_both]
      have hb911 : Below w9.heap.size w9 w11 := hb10.trans (hb11.mono hb10.size)
      have HGA' : Hid _ := hid (HGA.out.kept (asGrown (hb79.trans (hb911.mono hb79.size)) Option.none) (Or.inr (by simp [Value.ownBlock])))
      have HGB' : Hid _ := hid (HGB.out.kept (asGrown hb911 Option.none) (Or.inr (by simp [Value.ownBlock])))
      have HAB' := hid (SubRow.later HAB.out (Nat.le_refl _) (hb57.trans ((hb79.trans (hb911.mono hb79.size)).mono hb57.size)))
      have hb511 : Below w.heap.size w w11 := hb5.trans ((hb57.trans ((hb79.trans (hb911.mono hb79.size)).mono hb57.size)).mono hb5.size)
      have hna := EL_le s0 k
      have hnb := EL_le s1 q
      have CA := hid (fun (i : Nat) (h : i < EL s0 k) => (HGA'.out.cellAt i (by omega)).trans (EC_at s0 k i h))
      have CB := hid (fun (i : Nat) (h : i < EL s1 q) => (HGB'.out.cellAt i (by omega)).trans (EC_at s1 q i h))
      have CC := hid (fun (i : Nat) (h : i < EL s0 k + EL s1 q) => (hgab.cellAt i (by omega)).trans (EC_at (both k s0 s1) (k + q) i (by rw [EL_both]; exact h)))
      have DA := hid (fun (i : Nat) (h : i < EL s0 k) => strAt_a k q s0 s1 i h)
      have DB := hid (fun (i : Nat) => strAt_b k q s0 s1 i)
      clear hgab HGA HGB HAB HGA' HGB' hb57 hb79 hb911 hb6 hb7 hb8 hb9 hb10 hb11 hp1 hp1' hp2 hp2' hp3 hp3'
      generalize w6.heap.size = A at CA
      generalize w8.heap.size = B at CB
      generalize w10.heap.size = C at CC
      go_wp2
      go_loopw [12] (fun i wx => ∃ j p : Nat, j ≤ EL s0 k ∧ i = .int .i64 j ∧ wx = w11.drewN p) (fun i _ => EL s0 k - (intOf i).toNat)
      case atStart => exact ⟨0, 0, Nat.zero_le _, rfl, rfl⟩
      case round =>
        obtain ⟨j, p, hj, rfl, rfl⟩ := hrel
        by_cases hlt3 : j < EL s0 k
        · have ca := CA.out j hlt3
          have cc := CC.out j (by omega)
          rw [DA.out j hlt3] at cc
          have hji : (j : Int) < (EL s0 k : Nat) := by omega
          have hjc : (j : Int) < (EL s0 k : Nat) + (EL s1 q : Nat) := by omega
          go_wp2
          go_quiet (fail)
          go_wp2
          go_roundw
          case rel => exact ⟨j + 1, _, by omega, by go_num, rfl⟩
          case measure => simp [intOf]; omega
        obtain rfl : j = EL s0 k := by omega
        go_wp2
        go_loopw [13] (fun i wx => ∃ j p : Nat, j ≤ EL s1 q ∧ i = .int .i64 j ∧ wx = w11.drewN p) (fun i _ => EL s1 q - (intOf i).toNat)
        case atStart => exact ⟨0, _, Nat.zero_le _, rfl, rfl⟩
        case round =>
          obtain ⟨j, p, hj, rfl, rfl⟩ := hrel
          by_cases hlt4 : j < EL s1 q
          · have cb := CB.out j hlt4
            have cc := CC.out (EL s0 k + j) (by omega)
            rw [DB.out j] at cc
            have hji : (j : Int) < (EL s1 q : Nat) := by omega
            have hjc : (EL s0 k : Nat) + (j : Int) < (EL s0 k : Nat) + (EL s1 q : Nat) := by omega
            go_wp2
            go_quiet (fail)
            go_wp2
            go_roundw
            case rel => exact ⟨j + 1, _, by omega, by go_num, rfl⟩
            case measure => simp [intOf]; omega
          obtain rfl : j = EL s1 q := by omega
          have HK := hid (fun (i : Nat) => EL_le (both k s0 s1) i)
          have HG := hid (fun (i : Nat) => GS_le (both k s0 s1) i)
          go_wp2
          go_loop [14, 15, 16] (fun n g i => ∃ j : Nat, j ≤ k + q ∧ i = .int .i64 j ∧ n = .int .i64 (EL (both k s0 s1) j : Nat) ∧ g = .int .i64 (GS (both k s0 s1) j : Nat)) (fun _ _ i => k + q - (intOf i).toNat)
          case atStart => exact ⟨0, Nat.zero_le _, rfl, rfl, rfl⟩
          case round =>
            obtain ⟨j, hj, rfl, rfl, rfl⟩ := hrel
            have hkj := HK.out j
            have hgj := HG.out j
            by_cases hlt5 : j < k + q
            · rcases HAB'.out with h0 | ⟨b, off, ha, hbb, hc⟩
              · omega
              cases ha
              have c0 : w11.cell? ⟨wm.heap.size, j * 4, none⟩ = some (.string (both k s0 s1 j).kind) := by simpa using (hc j hlt5).c0
              have hji : (j : Int) < (k : Int) + (q : Int) := by omega
              clear hc
              have E1 := hid (fun p (h : ent (both k s0 s1 j) = [p]) => EL_some (both k s0 s1) j p h)
              have E2 := hid (fun p (h : ent (both k s0 s1 j) = [p]) => GS_some (both k s0 s1) j p h)
              have E3 := hid (fun (h : ent (both k s0 s1 j) = []) => EL_none (both k s0 s1) j h)
              have E4 := hid (fun (h : ent (both k s0 s1 j) = []) => GS_none (both k s0 s1) j h)
              generalize both k s0 s1 j = x at c0 E1 E2 E3 E4
              by_cases hu : (x.kind.toList == [85, 115, 101, 114]) = true
              · have HE := hid (show ent x = [(false, uHead ++ x.name)] by rw [ent, if_pos hu])
                have hgr : (x.kind.toList == [71, 114, 111, 117, 112]) = false := by rw [show x.kind.toList = [85, 115, 101, 114] by simpa using hu]; decide
                have F1 := hid (E1.out _ HE.out)
                have F2 := hid (E2.out _ HE.out)
                go_wp2
                go_round
                case rel => exact ⟨j + 1, by omega, by go_num, by rw [F1.out]; go_num, by rw [F2.out]; rfl⟩
                case measure => simp [intOf]; omega
              by_cases hgr : (x.kind.toList == [71, 114, 111, 117, 112]) = true
              · have HE := hid (show ent x = [(true, gHead ++ x.name)] by rw [ent, if_neg hu, if_pos hgr])
                have hsa : (x.kind.toList == [83, 101, 114, 118, 105, 99, 101, 65, 99, 99, 111, 117, 110, 116]) = false := by rw [show x.kind.toList = [71, 114, 111, 117, 112] by simpa using hgr]; decide
                replace hu := Bool.eq_false_iff.2 hu
                have F1 := hid (E1.out _ HE.out)
                have F2 := hid (E2.out _ HE.out)
                go_wp2
                go_round
                case rel => exact ⟨j + 1, by omega, by go_num, by rw [F1.out]; go_num, by rw [F2.out]; go_num⟩
                case measure => simp [intOf]; omega
              by_cases hsa : (x.kind.toList == [83, 101, 114, 118, 105, 99, 101, 65, 99, 99, 111, 117, 110, 116]) = true
              · have HE := hid (show ent x = [(false, uHead ++ (saHead ++ x.ns ++ ⟨#[58]⟩ ++ x.name))] by rw [ent, if_neg hu, if_neg hgr, if_pos hsa])
                replace hu := Bool.eq_false_iff.2 hu
                replace hgr := Bool.eq_false_iff.2 hgr
                have F1 := hid (E1.out _ HE.out)
                have F2 := hid (E2.out _ HE.out)
                go_wp2
                go_round
                case rel => exact ⟨j + 1, by omega, by go_num, by rw [F1.out]; go_num, by rw [F2.out]; rfl⟩
                case measure => simp [intOf]; omega
              · have HE := hid (show ent x = [] by rw [ent, if_neg hu, if_neg hgr, if_neg hsa])
                replace hu := Bool.eq_false_iff.2 hu
                replace hgr := Bool.eq_false_iff.2 hgr
                replace hsa := Bool.eq_false_iff.2 hsa
                have F1 := hid (E3.out HE.out)
                have F2 := hid (E4.out HE.out)
                go_wp2
                go_round
                case rel => exact ⟨j + 1, by omega, by go_num, by rw [F1.out], by rw [F2.out]⟩
                case measure => simp [intOf]; omega
            obtain rfl : j = k + q := by omega
            rw [EL_both]
            have HGA := hid (GS_all (both k s0 s1) (k + q))
            rw [EL_both] at HGA
            have HM := hid (fun (i : Nat) (h : i < EL s0 k + EL s1 q) (wx : World) => isGroup_at (both k s0 s1) (k + q) i (by rw [EL_both]; exact h) wx)
            have hEl : (ents (both k s0 s1) (k + q)).length = EL s0 k + EL s1 q := EL_both k q s0 s1
            have HEl := hid hEl
            clear hEl hkj hgj
            generalize ents (both k s0 s1) (k + q) = E at HM CC HEl HGA
            go_wp2
            go_loop [18, 19] (fun g i => ∃ j : Nat, j ≤ EL s0 k + EL s1 q ∧ i = .int .i64 j ∧ g = .int .i64 (GC E j : Nat)) (fun _ i => EL s0 k + EL s1 q - (intOf i).toNat)
            case atStart => exact ⟨0, Nat.zero_le _, rfl, by rw [GC_zero]; rfl⟩
            case round =>
              obtain ⟨i, hi6, rfl, rfl⟩ := hrel
              have hgi := GC_le E i
              by_cases hlt6 : i < EL s0 k + EL s1 q
              · have cc := CC.out i hlt6
                have hii : (i : Int) < (EL s0 k : Nat) + (EL s1 q : Nat) := by omega
                have HC := HM.out i hlt6
                cases hm : markAt E i with
                | true =>
                  have F := hid (GC_yes E i (by rw [HEl.out]; exact hlt6) hm)
                  rw [hm] at HC
                  clear hm
                  go_wp2_with (go_at_call 12; refine (HC _).mono ?_; rintro e w' ⟨rfl, rfl⟩)
                  go_round
                  case rel => exact ⟨i + 1, by omega, by go_num, by rw [F.out]; go_num⟩
                  case measure => simp [intOf]; omega
                | false =>
                  have F := hid (GC_no E i (by rw [HEl.out]; exact hlt6) hm)
                  rw [hm] at HC
                  clear hm
                  go_wp2_with (go_at_call 12; refine (HC _).mono ?_; rintro e w' ⟨rfl, rfl⟩)
                  go_round
                  case rel => exact ⟨i + 1, by omega, by go_num, by rw [F.out]⟩
                  case measure => simp [intOf]; omega
              obtain rfl : i = EL s0 k + EL s1 q := by omega
              rw [HGA.out]
              go_wp2
              go_ret
              exact ⟨by simp, below_drewN hb511 _⟩

end Go.Proofs.Qxb6605751a.Gr
