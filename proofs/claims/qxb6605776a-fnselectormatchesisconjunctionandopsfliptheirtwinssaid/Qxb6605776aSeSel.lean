/-
  THE WALK of ZZselector (12).
-/
import Derived.Test.Qxb6605776aSeMatch
import Derived.BigRegion
namespace Go.Proofs.Qxb6605776a.Se
open Go.RowKit

theorem Try.info43 : (Try.prog.info? 43).map (fun i => (i.zero, i.size, i.bytes)) = some (some (.agg #[.string ⟨#[]⟩, .int .i64 0, .slice none 0 0]), 3, 48) := by kernel_rfl

/-- One requirement laid. -/
def lay3 (xs : List Value) (k : Nat) (a b c : Value) : List Value := ((xs.set (k * 3) a).set (k * 3 + 1) b).set (k * 3 + 2) c

/-- The first k requirements lie in the row. -/
def ReqsIn (xs : List Value) (k : Nat) (K : Nat → ByteArray) (O : Nat → Int) (A : Nat → Option Addr) (N C : Nat → Nat) : Prop :=
  ∀ j, j < k → xs[j * 3]? = some (.string (K j)) ∧ xs[j * 3 + 1]? = some (.int .i64 (O j)) ∧ xs[j * 3 + 2]? = some (.slice (A j) (N j) (C j))

theorem reqsIn_succ {xs : List Value} {k l : Nat} {K : Nat → ByteArray} {O : Nat → Int} {A : Nat → Option Addr} {N C : Nat → Nat} (h : ReqsIn xs k K O A N C) (hk : k < l) (hn : xs.length = l * 3) :
    ReqsIn (lay3 xs k (.string (K k)) (.int .i64 (O k)) (.slice (A k) (N k) (C k))) (k + 1) K O A N C := by
  intro j hj
  unfold lay3
  by_cases e : j = k
  · subst e
    simp only [List.getElem?_set, List.length_set]
    refine ⟨?_, ?_, ?_⟩
    · rw [if_neg (by omega), if_neg (by omega), if_pos trivial, if_pos (by omega)]
    · rw [if_neg (by omega), if_pos trivial, if_pos (by omega)]
    · rw [if_pos trivial, if_pos (by omega)]
  · have := h j (by omega)
    simp only [List.getElem?_set, List.length_set]
    refine ⟨?_, ?_, ?_⟩
    · rw [if_neg (by omega), if_neg (by omega), if_neg (by omega)]; exact this.1
    · rw [if_neg (by omega), if_neg (by omega), if_neg (by omega)]; exact this.2.1
    · rw [if_neg (by omega), if_neg (by omega), if_neg (by omega)]; exact this.2.2

/-- The world behind one round's store. -/
def laid3 (wr : World) (g k : Nat) (a b c : Value) : World := ((wr.setCell ⟨g, k * 3, none⟩ a).setCell ⟨g, k * 3 + 1, none⟩ b).setCell ⟨g, k * 3 + 2, none⟩ c

theorem lay3_step {wr : World} {base g l : Nat} {xs : List Value} (h : wr.ownsRow base 43 3 (.slice (some ⟨g, 0, none⟩) l l) l xs) (k : Nat) (a b c : Value) :
    (laid3 wr g k a b c).ownsRow base 43 3 (.slice (some ⟨g, 0, none⟩) l l) l (lay3 xs k a b c) ∧ wr.grownBy (laid3 wr g k a b c) (some g) := by
  have h1 := h.stored (k * 3) a
  have h2 := h1.1.stored (k * 3 + 1) b
  have h3 := h2.1.stored (k * 3 + 2) c
  exact ⟨h3.1, (h1.2.trans h2.2).trans h3.2⟩

/-- The headers of the inner slices as functions of the place. -/
theorem ListRow.fns {w : World} {B : Nat} {a : Option Addr} {l : Nat} {n : Nat → Nat} {M : Nat → Nat → ByteArray} (h : ListRow w B a l n M) :
    ∃ (A : Nat → Option Addr) (C : Nat → Nat), (∀ j, j < l → StrRow w B (A j) (n j) (M j)) ∧ (l = 0 ∨ ∃ b off, a = some ⟨b, off, none⟩ ∧ b < w.heap.size ∧ ∀ j, j < l → w.cell? ⟨b, off + j, none⟩ = some (.slice (A j) (n j) (C j))) := by
  rcases h with h0 | ⟨b, off, ha, _, hb, hc⟩
  · exact ⟨fun _ => none, fun _ => 0, fun j hj => by omega, .inl h0⟩
  · obtain ⟨f, hf⟩ := Deep.choose_lt (p := fun j (q : Option Addr × Nat) => w.cell? ⟨b, off + j, none⟩ = some (.slice q.1 (n j) q.2) ∧ StrRow w B q.1 (n j) (M j)) (fun j hj => by
      obtain ⟨aj, cj, h1, h2, _⟩ := hc j hj
      exact ⟨(aj, cj), h1, h2⟩)
    exact ⟨fun j => (f j).1, fun j => (f j).2, fun j hj => (hf j hj).2, .inr ⟨b, off, ha, hb, fun j hj => (hf j hj).1⟩⟩

set_option maxRecDepth 100000 in
set_option maxHeartbeats 2000000 in
theorem selector_any (a0 : Option Addr) (l c0 : Nat) (K : Nat → ByteArray) (a1 : Option Addr) (c1 : Nat) (O : Nat → Int) (a2 : Option Addr) (c2 : Nat) (N : Nat → Nat) (M : Nat → Nat → ByteArray) (w : World) (hl : l ≤ 1048576)
    (h0 : StrRow w 0 a0 l K) (h1 : IntRow w 0 a1 l O) (h2 : ListRow w 0 a2 l N M) :
    Calls Try.prog 12 #[.slice a0 l c0, .slice a1 l c1, .slice a2 l c2] w fun e w' => e = .returned (.agg #[.slice (some ⟨w.heap.size + 1, 0, none⟩) l l]) ∧ Reqs w' (w.heap.size + 1) l K O N M ∧ Below w.heap.size w w' := by
  obtain ⟨i0, hi, hz0, hz1, hz2⟩ := info_parts Try.info43
  obtain ⟨A, C, hrows, hcells⟩ := h2.fns
  have H0 := hid h0
  have H1 := hid h1
  have H2 := hid hcells
  have HS := hid hrows
  clear h0 h1 h2 hcells hrows
  go_enter Try.func12, Try.ntmps12
  go_wp2_with (at_make; refine wpList_make_full _ rfl (.tmp 10) (.tmp 10) 33 rfl (w.heap.size + 1) 43 i0 (.agg #[.string ⟨#[]⟩, .int .i64 0, .slice none 0 0]) 3 Try.underlying33 hi hz0 hz1 .i64 .i64 _ _ l rfl rfl rfl rfl ?b2 ?b3 ?b4 ?_)
  case b2 => rw [hz2]; omega
  case b3 => unfold maxLen; omega
  case b4 => simp
  intro w1 hown hg
  have HO := hid hown
  have hB : Below (w.heap.size + 1) (w.alloc (Obj.cells #[.slice none 0 0] 35)) w1 := (Below.refl _ _).grown hg (by simp) (fun _ h => by cases h)
  have hcb : w1.cell? ⟨w.heap.size, 0, none⟩ = some (.slice none 0 0) := (hB.cell (by simp)).trans (by simp)
  have hfb : w1.frozen? ⟨w.heap.size, 0, none⟩ = false := (hB.frozen (by simp)).trans (by simp)
  have hbel : Below w.heap.size w w1 := ((Below.refl _ _).alloc (Nat.le_refl _) _).trans (hB.mono (by omega))
  have hsz : w.heap.size + 1 < w1.heap.size := (hown.lt _ rfl).2
  clear hown hg hB
  go_wp2
  go_loopw [14] (fun i wr => ∃ (k : Nat) (xs : List Value), k ≤ l ∧ i = .int .i64 k ∧ wr.ownsRow (w.heap.size + 1) 43 3 (.slice (some ⟨w.heap.size + 1, 0, none⟩) l l) l xs ∧ ReqsIn xs k K O A N C ∧ wr.cell? ⟨w.heap.size, 0, none⟩ = some (.slice none 0 0) ∧ wr.frozen? ⟨w.heap.size, 0, none⟩ = false ∧ Below w.heap.size w wr) (fun i _ => l - (intOf i).toNat)
  case atStart => exact ⟨0, _, Nat.zero_le _, rfl, HO.out, fun j hj => by omega, hcb, hfb, hbel⟩
  case round =>
    obtain ⟨k, xs, hk, rfl, hownr, hin, hcr, hfr, hbr⟩ := hrel
    have HOr := hid hownr
    have HI := hid hin
    clear hownr hin
    by_cases hlt : k < l
    · rcases H0.out with h | ⟨b0, o0, e0, _, hb0, hc0⟩
      · omega
      rcases H1.out with h | ⟨b1, o1, e1, _, hb1, hc1⟩
      · omega
      rcases H2.out with h | ⟨b2, o2, e2, hb2, hc2⟩
      · omega
      subst e0 e1 e2
      have hxl : xs.length = l * 3 := HOr.out.1
      have g0 : wr.cell? ⟨b0, o0 + k, none⟩ = some (.string (K k)) := (hbr.cell (by exact hb0)).trans (hc0 k hlt)
      have g1 : wr.cell? ⟨b1, o1 + k, none⟩ = some (.int .i64 (O k)) := (hbr.cell (by exact hb1)).trans (hc1 k hlt)
      have g2 : wr.cell? ⟨b2, o2 + k, none⟩ = some (.slice (A k) (N k) (C k)) := (hbr.cell (by exact hb2)).trans (hc2 k hlt)
      obtain ⟨y0, d0⟩ : ∃ y, wr.cell? ⟨w.heap.size + 1, k * 3, none⟩ = some y := ⟨_, (HOr.out.cellAt _ (by omega)).trans (List.getElem?_eq_getElem (by omega))⟩
      obtain ⟨y1, d1⟩ : ∃ y, wr.cell? ⟨w.heap.size + 1, k * 3 + 1, none⟩ = some y := ⟨_, (HOr.out.cellAt _ (by omega)).trans (List.getElem?_eq_getElem (by omega))⟩
      obtain ⟨y2, d2⟩ : ∃ y, wr.cell? ⟨w.heap.size + 1, k * 3 + 2, none⟩ = some y := ⟨_, (HOr.out.cellAt _ (by omega)).trans (List.getElem?_eq_getElem (by omega))⟩
      have f0 := HOr.out.frozenAt (k * 3)
      have f1 := HOr.out.frozenAt (k * 3 + 1)
      have f2 := HOr.out.frozenAt (k * 3 + 2)
      have hki : (k : Int) < (l : Int) := by omega
      clear hc0 hc1 hc2
      go_wp2
      go_region
      go_wp2
      have HL := lay3_step HOr.out k (.string (K k)) (.int .i64 (O k)) (.slice (A k) (N k) (C k))
      go_roundw
      case rel => exact ⟨k + 1, _, by omega, by go_num, HL.1.drew, reqsIn_succ HI.out hlt hxl, HL.2.cell hcr (by simp), (World.frozen?_of_block (a := ⟨w.heap.size, 0, none⟩) (HL.2.block w.heap.size (by have h : w.heap.size + 1 < wr.heap.size := (HOr.out.lt _ rfl).2; omega) (by simp))).trans hfr, (hbr.grown HL.2 hbr.size (fun _ h => by cases h; omega)).drew⟩
      case measure => simp [intOf]; omega
    obtain rfl : k = l := by omega
    go_wp2
    have hsame : (wr.setCell ⟨w.heap.size, 0, none⟩ (.slice (some ⟨w.heap.size + 1, 0, none⟩) k k)).cell? ⟨w.heap.size, 0, none⟩ = some (.slice (some ⟨w.heap.size + 1, 0, none⟩) k k) := World.cell?_setCell_same _ _ _ hcr
    have hbf : Below w.heap.size w (wr.setCell ⟨w.heap.size, 0, none⟩ (.slice (some ⟨w.heap.size + 1, 0, none⟩) k k)) := hbr.setCell (Nat.le_refl _) _
    have hof : (wr.setCell ⟨w.heap.size, 0, none⟩ (.slice (some ⟨w.heap.size + 1, 0, none⟩) k k)).ownsRow (w.heap.size + 1) 43 3 (.slice (some ⟨w.heap.size + 1, 0, none⟩) k k) k xs := ownsRow_setCell_below HOr.out (by simp) _
    refine bodyPost_ret (v := .agg #[.slice (some ⟨w.heap.size + 1, 0, none⟩) k k]) (by simp [results, Try.results12, go_sem, hsame]) rfl ⟨rfl, ⟨(hof.lt _ rfl).2, fun j hj => ?_⟩, hbf⟩
    obtain ⟨q0, q1, q2⟩ := HI.out j hj
    exact ⟨A j, C j, (hof.cellAt _ (by omega)).trans q0, (hof.cellAt _ (by omega)).trans q1, (hof.cellAt _ (by omega)).trans q2, (HS.out j hj).later (Nat.le_refl _) hbf⟩

end Go.Proofs.Qxb6605776a.Se
