/-
  THE WALKS of matches (14) and ZZmatches (11).
-/
import Derived.Test.Qxb6605776aSeMap
import Derived.Deep.Slices
namespace Go.Proofs.Qxb6605776a.Se
open Go.RowKit

/-- Requirements in memory: three cells each from the head of block g on. -/
structure ReqAt (w : World) (g j : Nat) (key : ByteArray) (op : Int) (a : Option Addr) (n c : Nat) (m : Nat → ByteArray) : Prop where
  c0 : w.cell? ⟨g, j * 3, none⟩ = some (.string key)
  c1 : w.cell? ⟨g, j * 3 + 1, none⟩ = some (.int .i64 op)
  c2 : w.cell? ⟨g, j * 3 + 2, none⟩ = some (.slice a n c)
  row : StrRow w 0 a n m

/-- The l requirements of a selector. -/
def Reqs (w : World) (g l : Nat) (K : Nat → ByteArray) (O : Nat → Int) (n : Nat → Nat) (M : Nat → Nat → ByteArray) : Prop :=
  g < w.heap.size ∧ ∀ j, j < l → ∃ a c, ReqAt w g j (K j) (O j) a (n j) c (M j)

/-- Does a requirement hold, where the label is there (ok) and its value is among the values (b)? -/
def met (o : Int) (ok b : Bool) : Bool := if o = 0 then ok && b else if o = 1 then !ok || !b else if o = 2 then ok else !ok
def allB (f : Nat → Bool) : Nat → Bool
  | 0 => true
  | k + 1 => allB f k && f k
theorem allB_no (f : Nat → Bool) (k l : Nat) (hk : k < l) (h : f k = false) : allB f l = false := by
  induction l with
  | zero => omega
  | succ l ih =>
    by_cases e : k = l
    · subst e; simp [allB, h]
    · simp [allB, ih (by omega)]

/-- Does the j-th requirement hold of the labels D? -/
def reqB (D : DataW Unit) (K : Nat → ByteArray) (O : Nat → Int) (N : Nat → Nat) (M : Nat → Nat → ByteArray) (j : Nat) : Bool := met (O j) (okOf D (K j)) (hasStr (M j) (valOf D (K j)) (N j))

theorem ReqAt.later {w w' : World} {g j n c C : Nat} {key : ByteArray} {op : Int} {a : Option Addr} {m : Nat → ByteArray} (h : ReqAt w g j key op a n c m) (hg : g < w.heap.size) (hC : w.heap.size ≤ C) (hb : Below C w w') : ReqAt w' g j key op a n c m :=
  ⟨(hb.cell (by show g < C; omega)).trans h.c0, (hb.cell (by show g < C; omega)).trans h.c1, (hb.cell (by show g < C; omega)).trans h.c2, h.row.later hC hb⟩

set_option maxRecDepth 100000 in
set_option maxHeartbeats 2000000 in
theorem matches_any (g l p b n : Nat) (D : DataW Unit) (K : Nat → ByteArray) (O : Nat → Int) (N : Nat → Nat) (M : Nat → Nat → ByteArray) (w : World) (hl : l ≤ 1048576) (hks : ∀ j, j < l → (K j).size ≤ maxLen) (hO : ∀ j, j < l → 0 ≤ O j ∧ O j ≤ 3) (hN : ∀ j, j < l → N j ≤ maxLen)
    (hR : Reqs w g l K O N M) (hp : w.cell? ⟨p, 0, none⟩ = some (.map (some b))) (hm : MapAt w b n D) :
    Calls Try.prog 14 #[.agg #[.slice (some ⟨g, 0, none⟩) l l], .func (Fn.func 15) #[] #[.pointer (some ⟨p, 0, none⟩)]] w fun e w' => e = .returned (.bool (allB (reqB D K O N M) l)) ∧ Below w.heap.size w w' := by
  have hplt : p < w.heap.size := World.block_lt_of_cell? w _ hp
  have HR := hid hR
  have HK := hid hks
  have HO := hid hO
  have HN := hid hN
  have HM := hid hm
  have HP := hid hp
  clear hR hks hO hN hm hp
  go_enter Try.func14, Try.ntmps14
  go_wp2
  go_loopw [13] (fun i wr => ∃ k : Nat, k ≤ l ∧ i = .int .i64 k ∧ Hid (allB (reqB D K O N M) k = true) ∧ Below w.heap.size w wr) (fun i _ => l - (intOf i).toNat)
  case atStart => exact ⟨0, Nat.zero_le _, rfl, rfl, (Below.refl _ _).alloc (Nat.le_refl _) _⟩
  case round =>
    obtain ⟨k, hk, rfl, HA, hbr⟩ := hrel
    by_cases hlt : k < l
    · obtain ⟨a, c, hreq⟩ := HR.out.2 k hlt
      have hreq' := hreq.later HR.out.1 (Nat.le_refl _) hbr
      clear hreq
      obtain ⟨c0, c1, c2, row⟩ := hreq'
      have hki : (k : Int) < (l : Int) := by omega
      have ho := HO.out k hlt
      have hBe : reqB D K O N M k = met (O k) (okOf D (K k)) (hasStr (M k) (valOf D (K k)) (N k)) := rfl
      have HBe := hid hBe
      clear hBe
      have HY := hid (fun (h : reqB D K O N M k = true) => (show allB (reqB D K O N M) (k + 1) = true by simp only [allB, HA.out, h]; rfl))
      have HX := hid (fun (h : reqB D K O N M k = false) => allB_no (reqB D K O N M) k l hlt h)
      have HL := hid (fun (w2 : World) (hb2 : Below wr.heap.size wr w2) => label_any (K k) p b n D w2 (HK.out k hlt) ((hb2.cell (by have := hbr.size; show p < _; omega)).trans ((hbr.cell (by exact hplt)).trans HP.out)) ((HM.out.later (Nat.le_refl _) hbr).later (Nat.le_refl _) hb2))
      have HC := hid (fun (w2 : World) (hb2 : Below wr.heap.size wr w2) => contains_any a (N k) c (M k) (valOf D (K k)) w2 0 (HN.out k hlt) (row.later (Nat.le_refl _) hb2))
      clear row
      generalize hasStr (M k) (valOf D (K k)) (N k) = bb at HBe HC
      generalize okOf D (K k) = ok at HBe HL
      generalize reqB D K O N M k = rq at HBe HY HX
      generalize O k = oo at c1 ho HBe
      go_wp2_with fail
      refine (HL.out _ ((Below.refl _ _).alloc (Nat.le_refl _) _)).mono ?_
      rintro e w2 ⟨rfl, rfl⟩
      rcases (show oo = 0 ∨ oo = 1 ∨ oo = 2 ∨ oo = 3 by omega) with rfl | rfl | rfl | rfl
      · cases ok with
        | false =>
          go_wp2
          go_ret
          exact ⟨by rw [HX.out (HBe.out.trans (by simp [met]))]; rfl, hbr.alloc hbr.size _⟩
        | true =>
          cases bb with
          | false =>
            go_wp2_with fail
            refine (HC.out _ ((Below.refl _ _).alloc (Nat.le_refl _) _)).mono ?_
            rintro e w2 ⟨rfl, rfl⟩
            go_wp2
            go_ret
            exact ⟨by rw [HX.out (HBe.out.trans (by simp [met]))]; rfl, hbr.alloc hbr.size _⟩
          | true =>
            go_wp2_with fail
            refine (HC.out _ ((Below.refl _ _).alloc (Nat.le_refl _) _)).mono ?_
            rintro e w2 ⟨rfl, rfl⟩
            go_wp2
            go_roundw
            case rel => exact ⟨k + 1, by omega, by go_num, HY.out (HBe.out.trans (by simp [met])), hbr.alloc hbr.size _⟩
            case measure => simp [intOf]; omega
      · cases ok with
        | false =>
          go_wp2
          go_roundw
          case rel => exact ⟨k + 1, by omega, by go_num, HY.out (HBe.out.trans (by simp [met])), hbr.alloc hbr.size _⟩
          case measure => simp [intOf]; omega
        | true =>
          cases bb with
          | false =>
            go_wp2_with fail
            refine (HC.out _ ((Below.refl _ _).alloc (Nat.le_refl _) _)).mono ?_
            rintro e w2 ⟨rfl, rfl⟩
            go_wp2
            go_roundw
            case rel => exact ⟨k + 1, by omega, by go_num, HY.out (HBe.out.trans (by simp [met])), hbr.alloc hbr.size _⟩
            case measure => simp [intOf]; omega
          | true =>
            go_wp2_with fail
            refine (HC.out _ ((Below.refl _ _).alloc (Nat.le_refl _) _)).mono ?_
            rintro e w2 ⟨rfl, rfl⟩
            go_wp2
            go_ret
            exact ⟨by rw [HX.out (HBe.out.trans (by simp [met]))]; rfl, hbr.alloc hbr.size _⟩
      · cases ok with
        | false =>
          go_wp2
          go_ret
          exact ⟨by rw [HX.out (HBe.out.trans (by simp [met]))]; rfl, hbr.alloc hbr.size _⟩
        | true =>
          go_wp2
          go_roundw
          case rel => exact ⟨k + 1, by omega, by go_num, HY.out (HBe.out.trans (by simp [met])), hbr.alloc hbr.size _⟩
          case measure => simp [intOf]; omega
      · cases ok with
        | false =>
          go_wp2
          go_roundw
          case rel => exact ⟨k + 1, by omega, by go_num, HY.out (HBe.out.trans (by simp [met])), hbr.alloc hbr.size _⟩
          case measure => simp [intOf]; omega
        | true =>
          go_wp2
          go_ret
          exact ⟨by rw [HX.out (HBe.out.trans (by simp [met]))]; rfl, hbr.alloc hbr.size _⟩
    obtain rfl : k = l := by omega
    go_wp2
    go_ret
    exact ⟨by rw [HA.out]; rfl, hbr⟩

/-- ZZmatches. -/
theorem zzmatches_any (g l b n : Nat) (D : DataW Unit) (K : Nat → ByteArray) (O : Nat → Int) (N : Nat → Nat) (M : Nat → Nat → ByteArray) (w : World) (hl : l ≤ 1048576) (hks : ∀ j, j < l → (K j).size ≤ maxLen) (hO : ∀ j, j < l → 0 ≤ O j ∧ O j ≤ 3) (hN : ∀ j, j < l → N j ≤ maxLen)
    (hR : Reqs w g l K O N M) (hm : MapAt w b n D) :
    Calls Try.prog 11 #[.agg #[.slice (some ⟨g, 0, none⟩) l l], .map (some b)] w fun e w' => e = .returned (.bool (allB (reqB D K O N M) l)) ∧ Below w.heap.size w w' := by
  have HB : Below w.heap.size w ((w.alloc (Obj.cells #[.slice (some ⟨g, 0, none⟩) l l] 35)).alloc (Obj.cells #[.map (some b)] 30)) := ((Below.refl _ _).alloc (Nat.le_refl _) _).alloc (by simp) _
  have hR' : Reqs ((w.alloc (Obj.cells #[.slice (some ⟨g, 0, none⟩) l l] 35)).alloc (Obj.cells #[.map (some b)] 30)) g l K O N M := by
    refine ⟨by have := hR.1; simp; omega, fun j hj => ?_⟩
    obtain ⟨a, c, h⟩ := hR.2 j hj
    exact ⟨a, c, h.later hR.1 (Nat.le_refl _) HB⟩
  have HC := matches_any g l (w.heap.size + 1) b n D K O N M ((w.alloc (Obj.cells #[.slice (some ⟨g, 0, none⟩) l l] 35)).alloc (Obj.cells #[.map (some b)] 30)) hl hks hO hN hR' ((World.cell?_alloc_at _ _ _ _ (by simp)).trans rfl) (hm.later (Nat.le_refl _) HB)
  go_enter Try.func11, Try.ntmps11
  go_wp2_with fail
  refine HC.mono ?_
  clear HC
  rintro e w2 ⟨rfl, hb2⟩
  go_wp2
  go_ret
  exact ⟨rfl, HB.trans (hb2.mono HB.size)⟩

end Go.Proofs.Qxb6605776a.Se
