/-
  THE WALK of FnSelectorMatchesIsConjunctionAndOpsFlipTheirTwins (3), its callees by their contracts.
-/
import Derived.Test.Qxb6605776aSeSel
import Derived.Deep.RegionWith
namespace Go.Proofs.Qxb6605776a.Se
open Go.RowKit

theorem IntRow.low {w : World} {B : Nat} {a : Option Addr} {l : Nat} {o : Nat → Int} (h : IntRow w B a l o) : IntRow w 0 a l o := by
  rcases h with h0 | ⟨b, off, ha, hb, hlt, hc⟩
  · exact .inl h0
  · exact .inr ⟨b, off, ha, Nat.zero_le _, hlt, hc⟩
theorem ListRow.low {w : World} {B : Nat} {a : Option Addr} {l : Nat} {n : Nat → Nat} {M : Nat → Nat → ByteArray} (h : ListRow w B a l n M) : ListRow w 0 a l n M := by
  rcases h with h0 | ⟨b, off, ha, hb, hlt, hc⟩
  · exact .inl h0
  · exact .inr ⟨b, off, ha, Nat.zero_le _, hlt, fun j hj => by obtain ⟨aj, cj, h1, h2, h3⟩ := hc j hj; exact ⟨aj, cj, h1, h2.low (Nat.zero_le _), h3⟩⟩

theorem allB_one (f : Nat → Bool) : allB f 1 = f 0 := by simp [allB]

theorem slice_one22 (q p l d k : Nat) (hk : k + 1 ≤ d) (w : World) : (Instr.slice 22 (.slice (some ⟨q, p, none⟩) l d) (some (.int .i64 k)) (some (.int .i64 ((k : Int) + 1))) none).run Try.prog w = .ok (.slice (some ⟨q, p + k, none⟩) 1 (d - k)) w := by
  have h : ¬ d = k := by omega
  have e1 : ((k : Int) + 1).toNat = k + 1 := by omega
  rw [run_slice_lh w 22 _ l d Try.underlying22 .i64 .i64 k ((k : Int) + 1) (by omega) (by omega) (by omega)]
  have hs : (sizeOf (Try.prog.elem 22)).run Try.prog w = .ok 1 w := by kernel_rfl
  rw [hs]
  simp [Result.andThen, sliced, h, e1, Addr.add]

theorem slice_one23 (q p l d k : Nat) (hk : k + 1 ≤ d) (w : World) : (Instr.slice 23 (.slice (some ⟨q, p, none⟩) l d) (some (.int .i64 k)) (some (.int .i64 ((k : Int) + 1))) none).run Try.prog w = .ok (.slice (some ⟨q, p + k, none⟩) 1 (d - k)) w := by
  have h : ¬ d = k := by omega
  have e1 : ((k : Int) + 1).toNat = k + 1 := by omega
  rw [run_slice_lh w 23 _ l d Try.underlying23 .i64 .i64 k ((k : Int) + 1) (by omega) (by omega) (by omega)]
  have hs : (sizeOf (Try.prog.elem 23)).run Try.prog w = .ok 1 w := by kernel_rfl
  rw [hs]
  simp [Result.andThen, sliced, h, e1, Addr.add]

theorem slice_one24 (q p l d k : Nat) (hk : k + 1 ≤ d) (w : World) : (Instr.slice 24 (.slice (some ⟨q, p, none⟩) l d) (some (.int .i64 k)) (some (.int .i64 ((k : Int) + 1))) none).run Try.prog w = .ok (.slice (some ⟨q, p + k, none⟩) 1 (d - k)) w := by
  have h : ¬ d = k := by omega
  have e1 : ((k : Int) + 1).toNat = k + 1 := by omega
  rw [run_slice_lh w 24 _ l d Try.underlying24 .i64 .i64 k ((k : Int) + 1) (by omega) (by omega) (by omega)]
  have hs : (sizeOf (Try.prog.elem 24)).run Try.prog w = .ok 1 w := by kernel_rfl
  rw [hs]
  simp [Result.andThen, sliced, h, e1, Addr.add]

/-- The twin operator answers the opposite. -/
theorem twin (o : Int) (h : 0 ≤ o ∧ o ≤ 3) : (0 ≤ bits .xor .i64 o 1 ∧ bits .xor .i64 o 1 ≤ 3) ∧ ∀ ok b, met (bits .xor .i64 o 1) ok b = !met o ok b := by
  rcases (show o = 0 ∨ o = 1 ∨ o = 2 ∨ o = 3 by omega) with rfl | rfl | rfl | rfl <;> decide +kernel

theorem met_two (ok b : Bool) : met 2 ok b = ok := by simp [met]

/-- A selector of one requirement, built and asked. -/
theorem sel_one (b0 p0 c0 b1 p1 c1 b2 p2 c2 : Nat) (K : ByteArray) (O : Int) (aj : Option Addr) (n cj : Nat) (M : Nat → ByteArray) (w : World)
    (h0 : w.cell? ⟨b0, p0, none⟩ = some (.string K)) (h1 : w.cell? ⟨b1, p1, none⟩ = some (.int .i64 O)) (h2 : w.cell? ⟨b2, p2, none⟩ = some (.slice aj n cj)) (hr : StrRow w 0 aj n M) (hn : NilOk aj n) :
    Calls Try.prog 12 #[.slice (some ⟨b0, p0, none⟩) 1 c0, .slice (some ⟨b1, p1, none⟩) 1 c1, .slice (some ⟨b2, p2, none⟩) 1 c2] w fun e w' => e = .returned (.agg #[.slice (some ⟨w.heap.size + 1, 0, none⟩) 1 1]) ∧ Reqs w' (w.heap.size + 1) 1 (fun _ => K) (fun _ => O) (fun _ => n) (fun _ => M) ∧ Below w.heap.size w w' := by
  refine selector_any (some ⟨b0, p0, none⟩) 1 c0 (fun _ => K) (some ⟨b1, p1, none⟩) c1 (fun _ => O) (some ⟨b2, p2, none⟩) c2 (fun _ => n) (fun _ => M) w (by omega) ?_ ?_ ?_
  · exact .inr ⟨b0, p0, rfl, Nat.zero_le _, World.block_lt_of_cell? w _ h0, fun j hj => by (have e : j = 0 := (by omega)); subst e; exact h0⟩
  · exact .inr ⟨b1, p1, rfl, Nat.zero_le _, World.block_lt_of_cell? w _ h1, fun j hj => by (have e : j = 0 := (by omega)); subst e; exact h1⟩
  · exact .inr ⟨b2, p2, rfl, Nat.zero_le _, World.block_lt_of_cell? w _ h2, fun j hj => by (have e : j = 0 := (by omega)); subst e; exact ⟨aj, cj, h2, hr, hn⟩⟩

theorem sel_one_at (b0 p0 c0 b1 p1 c1 b2 p2 c2 : Nat) (K : ByteArray) (O : Int) (aj : Option Addr) (n cj : Nat) (M : Nat → ByteArray) (w : World) (N : Nat) (hN : w.heap.size = N)
    (h0 : w.cell? ⟨b0, p0, none⟩ = some (.string K)) (h1 : w.cell? ⟨b1, p1, none⟩ = some (.int .i64 O)) (h2 : w.cell? ⟨b2, p2, none⟩ = some (.slice aj n cj)) (hr : StrRow w 0 aj n M) (hn : NilOk aj n) :
    Calls Try.prog 12 #[.slice (some ⟨b0, p0, none⟩) 1 c0, .slice (some ⟨b1, p1, none⟩) 1 c1, .slice (some ⟨b2, p2, none⟩) 1 c2] w fun e w' => e = .returned (.agg #[.slice (some ⟨N + 1, 0, none⟩) 1 1]) ∧ Reqs w' (N + 1) 1 (fun _ => K) (fun _ => O) (fun _ => n) (fun _ => M) ∧ Below N w w' := by
  subst hN
  exact sel_one b0 p0 c0 b1 p1 c1 b2 p2 c2 K O aj n cj M w h0 h1 h2 hr hn

theorem ask_one (g b n : Nat) (D : DataW Unit) (K : ByteArray) (O : Int) (N : Nat) (M : Nat → ByteArray) (w : World) (hk : K.size ≤ maxLen) (hO : 0 ≤ O ∧ O ≤ 3) (hN : N ≤ maxLen)
    (hR : Reqs w g 1 (fun _ => K) (fun _ => O) (fun _ => N) (fun _ => M)) (hm : MapAt w b n D) :
    Calls Try.prog 11 #[.agg #[.slice (some ⟨g, 0, none⟩) 1 1], .map (some b)] w fun e w' => e = .returned (.bool (met O (okOf D K) (hasStr M (valOf D K) N))) ∧ Below w.heap.size w w' := by
  refine (zzmatches_any g 1 b n D (fun _ => K) (fun _ => O) (fun _ => N) (fun _ => M) w (by omega) (fun _ _ => hk) (fun _ _ => hO) (fun _ _ => hN) hR hm).mono ?_
  rintro e w' ⟨rfl, hb⟩
  exact ⟨by rw [allB_one]; rfl, hb⟩

set_option maxRecDepth 100000 in
set_option maxHeartbeats 4000000 in
theorem walk (a0 : Option Addr) (l0 c0 : Nat) (m0 : Nat → ByteArray) (a1 : Option Addr) (l1 c1 : Nat) (o1 : Nat → Int) (a2 : Option Addr) (l2 c2 : Nat) (n2 : Nat → Nat) (m2 : Nat → Nat → ByteArray) (a3 : Option Addr) (l3 c3 : Nat) (m3 : Nat → ByteArray) (a4 : Option Addr) (l4 c4 : Nat) (m4 : Nat → ByteArray) (w : World)
    (hl0 : l0 ≤ maxLen) (hl1 : l1 ≤ maxLen) (hl2 : l2 ≤ maxLen) (hl3 : l3 ≤ maxLen) (hl4 : l4 ≤ maxLen) (hn2 : ∀ j, j < l2 → n2 j ≤ maxLen)
    (hs0 : ∀ j, j < l0 → (m0 j).size ≤ maxLen) (hs3 : ∀ j, j < l3 → (m3 j).size ≤ maxLen) (hs4 : ∀ j, j < l4 → (m4 j).size ≤ maxLen)
    (h0 : StrRow w 0 a0 l0 m0) (h1 : IntRow w 0 a1 l1 o1) (h2 : ListRow w 0 a2 l2 n2 m2) (h3 : StrRow w 0 a3 l3 m3) (h4 : StrRow w 0 a4 l4 m4)
    (k0 : NilOk a0 l0) (k1 : NilOk a1 l1) (k2 : NilOk a2 l2) (k3 : NilOk a3 l3) (k4 : NilOk a4 l4) :
    Calls Try.prog 3 #[.slice a0 l0 c0, .slice a1 l1 c1, .slice a2 l2 c2, .slice a3 l3 c3, .slice a4 l4 c4] w fun e w' => e = .returned (.bool true) ∧ Below w.heap.size w w' := by
  have C4 := bytes_any a0 l0 c0 m0 a1 l1 c1 a2 l2 c2 n2 m2 a3 l3 c3 m3 a4 l4 c4 m4 w hl0 hl1 hl2 hl3 hl4 hn2 h0 h2 h3 h4
  have H0 := hid h0
  have H1 := hid h1
  have H2 := hid h2
  have H3 := hid h3
  have H4 := hid h4
  have K0 := hid k0
  have K1 := hid k1
  have K2 := hid k2
  have K3 := hid k3
  have K4 := hid k4
  have S0 := hid hs0
  have S3 := hid hs3
  have S4 := hid hs4
  clear h0 h1 h2 h3 h4 k0 k1 k2 k3 k4 hs0 hs3 hs4 hl0 hl1 hl2 hl3 hl4 hn2
  go_enter Try.func3, Try.ntmps3
  go_wp2_with fail
  refine C4.mono ?_
  clear C4
  rintro e w1 ⟨⟨r, rfl, hr⟩, rfl⟩
  cases r
  · go_wp2
    go_ret
    exact ⟨rfl, Below.refl _ _⟩
  obtain ⟨b0, b1, b2, b3, b4, bn⟩ := hr rfl
  clear hr
  have BN := hid bn
  clear bn
  go_wp2_with fail
  refine (sBytes_any a0 l0 c0 m0 a1 l1 c1 a2 l2 c2 n2 m2 a3 l3 c3 m3 a4 l4 c4 m4 w b0 b1 b2 b3 b4 BN.out H0.out H2.out H3.out H4.out).mono ?_
  rintro e w1 ⟨⟨z, rfl⟩, rfl⟩
  by_cases hz : 1048576 < z
  · go_wp2
    go_ret
    exact ⟨rfl, Below.refl _ _⟩
  go_wp2_with fail
  refine (domain_any a0 l0 c0 a1 l1 c1 o1 a2 l2 c2 a3 l3 c3 a4 l4 c4 w b1 H1.out).mono ?_
  rintro e w1 ⟨⟨r, rfl, hr⟩, rfl⟩
  cases r
  · go_wp2
    go_ret
    exact ⟨rfl, Below.refl _ _⟩
  obtain ⟨e1, e2, e3, ho⟩ := hr rfl
  clear hr
  have HO := hid ho
  clear ho hz
  obtain rfl : l1 = l0 := e1
  obtain rfl : l2 = l1 := e2
  obtain rfl : l4 = l3 := e3
  go_wp2_with fail
  refine (clone_any 0 a0 l2 c0 m0 w b0 K0.out H0.out).mono ?_
  rintro e w1 ⟨x0, d0, rfl, hx0, hd0, hn0, hb1⟩
  have X0 := hid hx0
  clear hx0
  go_wp2_with fail
  refine (cloneInts_any 0 a1 l2 c1 o1 w1 b0 K1.out (H1.out.later (Nat.le_refl _) hb1)).mono ?_
  rintro e w2 ⟨x1, d1, rfl, hx1, hd1, hn1, hb2⟩
  have X1 := hid hx1
  clear hx1
  go_wp2_with fail
  refine (cloneLists_any 0 a2 l2 c2 n2 m2 w2 b0 BN.out K2.out ((H2.out.later (Nat.le_refl _) hb1).later (Nat.le_refl _) hb2)).mono ?_
  rintro e w3 ⟨x2, d2, rfl, hx2, hd2, hn2, hb3⟩
  have X2 := hid hx2
  clear hx2
  go_wp2_with fail
  have B02 : Below w.heap.size w w2 := hb1.trans (hb2.mono hb1.size)
  have B03 : Below w.heap.size w w3 := B02.trans (hb3.mono B02.size)
  refine (clone_any 0 a3 l4 c3 m3 w3 b3 K3.out (H3.out.later (Nat.le_refl _) B03)).mono ?_
  rintro e w4 ⟨x3, d3, rfl, hx3, hd3, hn3, hb4⟩
  have X3 := hid hx3
  clear hx3
  go_wp2_with fail
  have B04 : Below w.heap.size w w4 := B03.trans (hb4.mono B03.size)
  refine (clone_any 0 a4 l4 c4 m4 w4 b3 K4.out (H4.out.later (Nat.le_refl _) B04)).mono ?_
  rintro e w5 ⟨x4, d4, rfl, hx4, hd4, hn4, hb5⟩
  have X4 := hid hx4
  clear hx4
  go_wp2_with fail
  refine (labels_any x3 l4 d3 m3 x4 d4 m4 w5 b3 S3.out S4.out ((X3.out.later (Nat.le_refl _) hb5).low (Nat.zero_le _)) (X4.out.low (Nat.zero_le _))).mono ?_
  rintro e w6 ⟨D, rfl, hm, hb6⟩
  have HM := hid hm
  clear hm
  have B36 : Below w3.heap.size w3 w6 := hb4.trans ((hb5.trans (hb6.mono hb5.size)).mono hb4.size)
  have B26 : Below w2.heap.size w2 w6 := hb3.trans (B36.mono hb3.size)
  have B16 : Below w1.heap.size w1 w6 := hb2.trans (B26.mono hb2.size)
  have B06 : Below w.heap.size w w6 := hb1.trans (B16.mono hb1.size)
  have Y0 := hid ((X0.out.later (Nat.le_refl _) B16).low (Nat.zero_le _))
  have Y1 := hid ((X1.out.later (Nat.le_refl _) B26).low)
  have Y2 := hid ((X2.out.later (Nat.le_refl _) B36).low)
  clear X0 X1 X2 X3 X4 hb1 hb2 hb3 hb4 hb5 hb6 B36 B26 B16 B02 B03 B04 H0 H1 H2 H3 H4 K0 K1 K2 K3 K4 S3 S4
  go_wp2_with fail
  refine (selector_any x0 l2 d0 m0 x1 d1 o1 x2 d2 n2 m2 w6 b0 Y0.out Y1.out Y2.out).mono ?_
  rintro e w7 ⟨rfl, hreq, hb7⟩
  have HQ := hid hreq
  clear hreq
  have BM := hid (fun j (h : j < l2) => (show n2 j ≤ maxLen by have := BN.out j h; unfold maxLen; omega))
  go_wp2_with fail
  refine (zzmatches_any (w6.heap.size + 1) l2 w5.heap.size l4 D m0 o1 n2 m2 w7 b0 S0.out HO.out BM.out HQ.out (HM.out.later (Nat.le_refl _) hb7)).mono ?_
  rintro e w8 ⟨rfl, hb8⟩
  clear HQ
  have B68 : Below w6.heap.size w6 w8 := hb7.trans (hb8.mono hb7.size)
  have Z0 := hid (Y0.out.later (Nat.le_refl _) B68)
  have Z1 := hid (Y1.out.later (Nat.le_refl _) B68)
  have Z2 := hid (Y2.out.later (Nat.le_refl _) B68)
  have ZM := hid (HM.out.later (Nat.le_refl _) B68)
  have B08 : Below w.heap.size w w8 := B06.trans (B68.mono B06.size)
  clear Y0 Y1 Y2 HM hb7 hb8 B68 B06
  generalize w5.heap.size = bm at ZM
  go_wp2
  go_loopw [13, 14] (fun c i wr => ∃ k : Nat, k ≤ l2 ∧ i = .int .i64 k ∧ c = .bool (allB (reqB D m0 o1 n2 m2) k) ∧ Below w8.heap.size w8 wr) (fun _ i _ => l2 - (intOf i).toNat)
  case atStart => exact ⟨0, Nat.zero_le _, rfl, rfl, Below.refl _ _⟩
  case round =>
    obtain ⟨k, hk, rfl, rfl, hbr⟩ := hrel
    by_cases hlt : k < l2
    · rcases Z0.out with h | ⟨q0, p0, e0, _, hq0, hc0⟩
      · omega
      rcases Z1.out with h | ⟨q1, p1, e1, _, hq1, hc1⟩
      · omega
      rcases Z2.out with h | ⟨q2, p2, e2, _, hq2, hc2⟩
      · omega
      subst e0 e1 e2
      obtain ⟨aj, cj, hcj, hsj, hnj⟩ := hc2 k hlt
      have g0 : wr.cell? ⟨q0, p0 + k, none⟩ = some (.string (m0 k)) := (hbr.cell (by exact hq0)).trans (hc0 k hlt)
      have g1 : wr.cell? ⟨q1, p1 + k, none⟩ = some (.int .i64 (o1 k)) := (hbr.cell (by exact hq1)).trans (hc1 k hlt)
      have g2 : wr.cell? ⟨q2, p2 + k, none⟩ = some (.slice aj (n2 k) cj) := (hbr.cell (by exact hq2)).trans hcj
      have hsr : StrRow wr 0 aj (n2 k) (m2 k) := hsj.later (Nat.le_refl _) hbr
      have hmr : MapAt wr bm l4 D := ZM.out.later (Nat.le_refl _) hbr
      have ho := HO.out k hlt
      have G := hid (fun (wx : World) (hb : Below wr.heap.size wr wx) => sel_one q0 (p0 + k) (d0 - k) q1 (p1 + k) (d1 - k) q2 (p2 + k) (d2 - k) (m0 k) (o1 k) aj (n2 k) cj (m2 k) wx ((hb.cell (by have := hbr.size; show q0 < _; omega)).trans g0) ((hb.cell (by have := hbr.size; show q1 < _; omega)).trans g1) ((hb.cell (by have := hbr.size; show q2 < _; omega)).trans g2) (hsr.later (Nat.le_refl _) hb) hnj)
      have hob : reqB D m0 o1 n2 m2 k = met (o1 k) (okOf D (m0 k)) (hasStr (m2 k) (valOf D (m0 k)) (n2 k)) := rfl
      have HOB := hid hob
      clear hob
      obtain ⟨htw, htm⟩ := twin (o1 k) ho
      have A1 := hid (fun (wx : World) (g : Nat) (hb : Below wr.heap.size wr wx) (hR : Reqs wx g 1 (fun _ => m0 k) (fun _ => o1 k) (fun _ => n2 k) (fun _ => m2 k)) => ask_one g bm l4 D (m0 k) (o1 k) (n2 k) (m2 k) wx (S0.out k hlt) ho (BM.out k hlt) hR (hmr.later (Nat.le_refl _) hb))
      have A2 := hid (fun (wx : World) (g : Nat) (hb : Below wr.heap.size wr wx) (hR : Reqs wx g 1 (fun _ => m0 k) (fun _ => bits .xor .i64 (o1 k) 1) (fun _ => n2 k) (fun _ => m2 k)) => ask_one g bm l4 D (m0 k) (bits .xor .i64 (o1 k) 1) (n2 k) (m2 k) wx (S0.out k hlt) htw (BM.out k hlt) hR (hmr.later (Nat.le_refl _) hb))
      rw [htm] at A2
      have A3 := hid (fun (wx : World) (g : Nat) (hb : Below wr.heap.size wr wx) (hR : Reqs wx g 1 (fun _ => m0 k) (fun _ => (2 : Int)) (fun _ => 0) (fun _ => fun _ => ByteArray.empty)) => ask_one g bm l4 D (m0 k) 2 0 (fun _ => ByteArray.empty) wx (S0.out k hlt) (by decide) (Nat.zero_le _) hR (hmr.later (Nat.le_refl _) hb))
      rw [met_two] at A3
      have G2 := hid (fun (wx : World) (N : Nat) (hN : wx.heap.size = N) (b t c : Nat) (hb : Below wr.heap.size wr wx) (hc : wx.cell? ⟨b, t, none⟩ = some (.int .i64 (bits .xor .i64 (o1 k) 1))) => sel_one_at q0 (p0 + k) (d0 - k) b t c q2 (p2 + k) (d2 - k) (m0 k) (bits .xor .i64 (o1 k) 1) aj (n2 k) cj (m2 k) wx N hN ((hb.cell (by have := hbr.size; show q0 < _; omega)).trans g0) hc ((hb.cell (by have := hbr.size; show q2 < _; omega)).trans g2) (hsr.later (Nat.le_refl _) hb) hnj)
      have G3 := hid (fun (wx : World) (N : Nat) (hN : wx.heap.size = N) (b b' : Nat) (hb : Below wr.heap.size wr wx) (hc : wx.cell? ⟨b, 0, none⟩ = some (.int .i64 2)) (hc' : wx.cell? ⟨b', 0, none⟩ = some (.slice none 0 0)) => sel_one_at q0 (p0 + k) (d0 - k) b 0 1 b' 0 1 (m0 k) 2 none 0 0 (fun _ => ByteArray.empty) wx N hN ((hb.cell (by have := hbr.size; show q0 < _; omega)).trans g0) hc hc' (.inl rfl) (fun _ => rfl))
      have LK := hid (fun (wx : World) (hb : Below wr.heap.size wr wx) => look_run (hmr.later (Nat.le_refl _) hb) (m0 k) (S0.out k hlt))
      clear htw htm
      generalize met (o1 k) (okOf D (m0 k)) (hasStr (m2 k) (valOf D (m0 k)) (n2 k)) = ob at HOB A1 A2
      have hki : (k : Int) < (l2 : Int) := by omega
      have hk0 : ¬ d0 = k := by omega
      have hwr : IntKind.i64.wrap ((k : Int) + 1) = (k : Int) + 1 := by rw [IntKind.wrap_i64]; omega
      have t0 := slice_one22 q0 p0 l2 d0 k (by omega)
      have t1 := slice_one23 q1 p1 l2 d1 k (by omega)
      have t2 := slice_one24 q2 p2 l2 d2 k (by omega)
      have hk1 : ¬ d1 = k := by omega
      have hk2 : ¬ d2 = k := by omega
      clear hc0 hc1 hc2
      go_wp2_with fail
      go_region_with (first | (go_at_call 12; refine (G.out _ ?_).mono ?_; exact (Below.refl _ _).drew; rintro e wa ⟨rfl, hRa, hba⟩) | (go_at_call 11; refine (A1.out _ _ ?_ hRa).mono ?_; exact (Below.refl _ _).drew.trans hba; rintro e wb ⟨rfl, hbb⟩))
      have Bb : Below wr.heap.size wr wb := ((Below.refl _ _).drew.trans hba).trans (hbb.mono hba.size)
      have g1b : wb.cell? ⟨q1, p1 + k, none⟩ = some (.int .i64 (o1 k)) := (Bb.cell (by have := hbr.size; show q1 < _; omega)).trans g1
      clear hRa hba hbb
      go_wp2_with fail
      go_region_with (first | (go_at_call 12; refine (G2.out _ (wb.heap.size + 1) ?_ _ _ _ ?_ ?_).mono ?_; simp; exact (Bb.alloc Bb.size _).drew; exact (World.cell?_alloc_at _ _ _ _ rfl).trans rfl; rintro e wc ⟨rfl, hRc, hbc⟩) | (go_at_call 11; refine (A2.out _ _ ?_ hRc).mono ?_; exact (Bb.alloc Bb.size _).drew.trans (hbc.mono (Nat.le_trans Bb.size (Nat.le_succ _))); rintro e wd ⟨rfl, hbd⟩))
      have Bd : Below wr.heap.size wr wd := ((Bb.alloc Bb.size _).drew.trans (hbc.mono (Nat.le_trans Bb.size (Nat.le_succ _)))).trans (hbd.mono (by have h1 := Bb.size; have h2 := hbc.size; simp at h2; omega))
      have lk := LK.out wd Bd
      have g0d : wd.cell? ⟨q0, p0 + k, none⟩ = some (.string (m0 k)) := (Bd.cell (by have := hbr.size; show q0 < _; omega)).trans g0
      clear hRc hbc hbd g1b G2 A2 A1 G
      go_wp2_with fail
      have Bd2 : Below wr.heap.size wr ((wd.alloc (Obj.cells #[.int .i64 2] 3)).alloc (Obj.cells #[.slice none 0 0] 22)) := (Bd.alloc Bd.size _).alloc (by have := Bd.size; simp; omega) _
      refine (G3.out _ (wd.heap.size + 2) (by simp) wd.heap.size (wd.heap.size + 1) Bd2 ((World.cell?_alloc_past _ _ _ (by simp)).trans ((World.cell?_alloc_at _ _ _ _ rfl).trans rfl)) ((World.cell?_alloc_at _ _ _ _ (by simp)).trans rfl)).mono ?_
      rintro e we ⟨rfl, hRe, hbe⟩
      have Be : Below wr.heap.size wr we := Bd2.trans (hbe.mono (by have := Bd.size; omega))
      have A3e := A3.out we _ Be hRe
      clear hRe hbe G3 A3 LK lk
      go_wp2_with fail
      refine A3e.mono ?_
      clear A3e
      rintro e wf ⟨rfl, hbf⟩
      have Bf : Below w8.heap.size w8 wf := hbr.trans ((Be.trans (hbf.mono Be.size)).mono hbr.size)
      have HA1 := hid (show allB (reqB D m0 o1 n2 m2) (k + 1) = (allB (reqB D m0 o1 n2 m2) k && ob) by rw [allB, HOB.out])
      clear HOB
      generalize allB (reqB D m0 o1 n2 m2) k = cb at HA1
      cases cb with
      | false =>
        go_wp2
        go_roundw
        case rel => exact ⟨k + 1, by omega, by go_num, by rw [HA1.out]; rfl, Bf⟩
        case measure => simp [intOf]; omega
      | true =>
        go_wp2
        go_roundw
        case rel => exact ⟨k + 1, by omega, by go_num, by rw [HA1.out]; rfl, Bf⟩
        case measure => simp [intOf]; omega
    obtain rfl : k = l2 := by omega
    go_wp2
    go_ret
    exact ⟨by simp, B08.trans (hbr.mono B08.size)⟩

end Go.Proofs.Qxb6605776a.Se
