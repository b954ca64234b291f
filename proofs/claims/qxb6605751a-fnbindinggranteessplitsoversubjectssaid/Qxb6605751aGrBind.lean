/-
  THE WALK of zzBindingOf (10).
-/
import Derived.Test.Qxb6605751aGrSmall
import Derived.BigRegion
namespace Go.Proofs.Qxb6605751a.Gr
open Go.RowKit

theorem hid {p : Prop} (h : p) : Hid p := h

/-- A binding in memory: its first cell holds a slice of the subjects s. -/
def BindingAt (w : World) (p n : Nat) (s : Nat → Sub) : Prop := ∃ a c, w.cell? ⟨p, 0, none⟩ = some (.slice a n c) ∧ SubRow w a n s

theorem Try.info42 : (Try.prog.info? 42).map (fun i => (i.zero, i.size, i.bytes)) = some (some (.agg #[.string ⟨#[]⟩, .string ⟨#[]⟩, .string ⟨#[]⟩, .string ⟨#[]⟩]), 4, 64) := by kernel_rfl

set_option maxHeartbeats 400000 in
theorem bind_nil (s : Nat → Sub) (w : World) :
    Calls Try.prog 10 #[.slice none 0 0] w fun e w' => ∃ p, e = .returned (.pointer (some ⟨p, 0, none⟩)) ∧ BindingAt w' p 0 s ∧ w.heap.size ≤ p ∧ p < w'.heap.size ∧ Below w.heap.size w w' := by
  go_enter Try.func10, Try.ntmps10
  go_wp2
  go_ret
  exact ⟨_, rfl, ⟨none, 0, by simp, .inl rfl⟩, Nat.le_refl _, by simp, (Below.refl _ _).alloc (Nat.le_refl _) _⟩

/-- What the row of new subjects holds after k rounds. -/
def Filled (s : Nat → Sub) (xs : List Value) (k : Nat) : Prop :=
  ∀ j, j < k → xs[j * 4]? = some (.string (s j).kind) ∧ xs[j * 4 + 1]? = some (.string (s j).group) ∧ xs[j * 4 + 2]? = some (.string (s j).name) ∧ xs[j * 4 + 3]? = some (.string (s j).ns)

/-- One subject laid. -/
def lay (xs : List Value) (k : Nat) (x : Sub) : List Value :=
  (((xs.set (k * 4) (.string x.kind)).set (k * 4 + 1) (.string x.group)).set (k * 4 + 2) (.string x.name)).set (k * 4 + 3) (.string x.ns)

theorem filled_succ {s : Nat → Sub} {xs : List Value} {k n : Nat} (h : Filled s xs k) (hk : k < n) (hn : xs.length = n * 4) : Filled s (lay xs k (s k)) (k + 1) := by
  intro j hj
  unfold lay
  by_cases e : j = k
  · subst e
    simp only [List.getElem?_set, List.length_set]
    refine ⟨?_, ?_, ?_, ?_⟩
    · rw [if_neg (by omega), if_neg (by omega), if_neg (by omega), if_pos trivial, if_pos (by omega)]
    · rw [if_neg (by omega), if_neg (by omega), if_pos trivial, if_pos (by omega)]
    · rw [if_neg (by omega), if_pos trivial, if_pos (by omega)]
    · rw [if_pos trivial, if_pos (by omega)]
  · have := h j (by omega)
    simp only [List.getElem?_set, List.length_set]
    refine ⟨?_, ?_, ?_, ?_⟩
    · rw [if_neg (by omega), if_neg (by omega), if_neg (by omega), if_neg (by omega)]; exact this.1
    · rw [if_neg (by omega), if_neg (by omega), if_neg (by omega), if_neg (by omega)]; exact this.2.1
    · rw [if_neg (by omega), if_neg (by omega), if_neg (by omega), if_neg (by omega)]; exact this.2.2.1
    · rw [if_neg (by omega), if_neg (by omega), if_neg (by omega), if_neg (by omega)]; exact this.2.2.2

/-- The world behind one round's store. -/
def laid (wr : World) (g k : Nat) (x : Sub) : World :=
  (((wr.setCell ⟨g, k * 4, none⟩ (.string x.kind)).setCell ⟨g, k * 4 + 1, none⟩ (.string x.group)).setCell ⟨g, k * 4 + 2, none⟩ (.string x.name)).setCell ⟨g, k * 4 + 3, none⟩ (.string x.ns)

theorem lay_step {wr : World} {base g l : Nat} {xs : List Value} (h : wr.ownsRow base 42 4 (.slice (some ⟨g, 0, none⟩) l l) l xs) (k : Nat) (x : Sub) :
    (laid wr g k x).ownsRow base 42 4 (.slice (some ⟨g, 0, none⟩) l l) l (lay xs k x) ∧ wr.grownBy (laid wr g k x) (some g) := by
  have h1 := h.stored (k * 4) (.string x.kind)
  have h2 := h1.1.stored (k * 4 + 1) (.string x.group)
  have h3 := h2.1.stored (k * 4 + 2) (.string x.name)
  have h4 := h3.1.stored (k * 4 + 3) (.string x.ns)
  exact ⟨h4.1, ((h1.2.trans h2.2).trans h3.2).trans h4.2⟩

/-- From the filled row to the subjects at their places. -/
theorem filled_row {w : World} {base g l : Nat} {xs : List Value} {s : Nat → Sub} (h : w.ownsRow base 42 4 (.slice (some ⟨g, 0, none⟩) l l) l xs) (hf : Filled s xs l) : SubRow w (some ⟨g, 0, none⟩) l s := by
  refine .inr ⟨g, 0, rfl, (h.lt _ rfl).2, fun j hj => ?_⟩
  obtain ⟨h0, h1, h2, h3⟩ := hf j hj
  refine ⟨?_, ?_, ?_, ?_⟩
  · rw [Nat.zero_add, h.cellAt _ (by omega)]; exact h0
  · rw [Nat.zero_add, h.cellAt _ (by omega)]; exact h1
  · rw [Nat.zero_add, h.cellAt _ (by omega)]; exact h2
  · rw [Nat.zero_add, h.cellAt _ (by omega)]; exact h3

set_option maxHeartbeats 400000 in
theorem bind_some (x : Addr) (l cap : Nat) (s : Nat → Sub) (w : World) (hl : l ≤ 100000) (hr : SubRow w (some x) l s) :
    Calls Try.prog 10 #[.slice (some x) l cap] w fun e w' => ∃ p, e = .returned (.pointer (some ⟨p, 0, none⟩)) ∧ BindingAt w' p l s ∧ w.heap.size ≤ p ∧ p < w'.heap.size ∧ Below w.heap.size w w' := by
  obtain ⟨i0, hi, hz0, hz1, hz2⟩ := info_parts Try.info42
  go_enter Try.func10, Try.ntmps10
  go_wp2_with (at_make; refine wpList_make_full _ rfl (.tmp 11) (.tmp 11) 36 rfl (w.heap.size + 1) 42 i0 (.agg #[.string ⟨#[]⟩, .string ⟨#[]⟩, .string ⟨#[]⟩, .string ⟨#[]⟩]) 4 Try.underlying36 hi hz0 hz1 .i64 .i64 _ _ l rfl rfl rfl rfl ?b2 ?b3 ?b4 ?_)
  case b2 => rw [hz2]; omega
  case b3 => unfold maxLen; omega
  case b4 => simp
  intro w1 hown hg
  have HO := hid hown
  have hB : Below (w.heap.size + 1) (w.alloc (Obj.cells #[.slice none 0 0, .string ⟨#[]⟩, .string ⟨#[]⟩, .string ⟨#[]⟩] 40)) w1 := (Below.refl _ _).grown hg (by simp) (fun _ h => by cases h)
  have hcb : w1.cell? ⟨w.heap.size, 0, none⟩ = some (.slice none 0 0) := (hB.cell (by simp)).trans (by simp)
  have hfb : w1.frozen? ⟨w.heap.size, 0, none⟩ = false := (hB.frozen (by simp)).trans (by simp)
  have hbel : Below w.heap.size w w1 := ((Below.refl _ _).alloc (Nat.le_refl _) _).trans (hB.mono (by omega))
  have hsz : w.heap.size + 1 < w1.heap.size := (hown.lt _ rfl).2
  clear hown hg hB
  have HO2 : Hid ((w1.setCell ⟨w.heap.size, 0, none⟩ (.slice (some ⟨w.heap.size + 1, 0, none⟩) l l)).ownsRow (w.heap.size + 1) 42 4 (.slice (some ⟨w.heap.size + 1, 0, none⟩) l l) l _) := ownsRow_setCell_below HO.out (by simp) _
  clear HO
  go_wp2
  go_loopw [4] (fun i wr => ∃ (k : Nat) (xs : List Value), k ≤ l ∧ i = .int .i64 k ∧ wr.ownsRow (w.heap.size + 1) 42 4 (.slice (some ⟨w.heap.size + 1, 0, none⟩) l l) l xs ∧ Filled s xs k ∧ wr.cell? ⟨w.heap.size, 0, none⟩ = some (.slice (some ⟨w.heap.size + 1, 0, none⟩) l l) ∧ Below w.heap.size w wr ∧ w.heap.size + 1 < wr.heap.size) (fun i _ => l - (intOf i).toNat)
  case atStart => exact ⟨0, _, Nat.zero_le _, rfl, HO2.out, fun j hj => by omega, World.cell?_setCell_same _ _ _ hcb, hbel.setCell (by simp) _, by simpa using hsz⟩
  case round =>
    obtain ⟨k, xs, hk, rfl, hownr, hfil, hcr, hbr, hszr⟩ := hrel
    by_cases hlt : k < l
    · rcases hr with h0 | ⟨b, off, ha, hb, hc⟩
      · omega
      cases ha
      obtain ⟨c0, c1, c2, c3⟩ := hc k hlt
      clear hc
      have hxl : xs.length = l * 4 := hownr.1
      have g0 : wr.cell? ⟨b, off + k * 4, none⟩ = some (.string (s k).kind) := (hbr.cell (by exact hb)).trans c0
      have g1 : wr.cell? ⟨b, off + k * 4 + 1, none⟩ = some (.string (s k).group) := (hbr.cell (by exact hb)).trans c1
      have g2 : wr.cell? ⟨b, off + k * 4 + 2, none⟩ = some (.string (s k).name) := (hbr.cell (by exact hb)).trans c2
      have g3 : wr.cell? ⟨b, off + k * 4 + 3, none⟩ = some (.string (s k).ns) := (hbr.cell (by exact hb)).trans c3
      obtain ⟨y0, d0⟩ : ∃ y, wr.cell? ⟨w.heap.size + 1, k * 4, none⟩ = some y := ⟨_, (hownr.cellAt _ (by omega)).trans (List.getElem?_eq_getElem (by omega))⟩
      obtain ⟨y1, d1⟩ : ∃ y, wr.cell? ⟨w.heap.size + 1, k * 4 + 1, none⟩ = some y := ⟨_, (hownr.cellAt _ (by omega)).trans (List.getElem?_eq_getElem (by omega))⟩
      obtain ⟨y2, d2⟩ : ∃ y, wr.cell? ⟨w.heap.size + 1, k * 4 + 2, none⟩ = some y := ⟨_, (hownr.cellAt _ (by omega)).trans (List.getElem?_eq_getElem (by omega))⟩
      obtain ⟨y3, d3⟩ : ∃ y, wr.cell? ⟨w.heap.size + 1, k * 4 + 3, none⟩ = some y := ⟨_, (hownr.cellAt _ (by omega)).trans (List.getElem?_eq_getElem (by omega))⟩
      have f0 := hownr.frozenAt (k * 4)
      have f1 := hownr.frozenAt (k * 4 + 1)
      have f2 := hownr.frozenAt (k * 4 + 2)
      have f3 := hownr.frozenAt (k * 4 + 3)
      have hki : (k : Int) < (l : Int) := by omega
      have HOr := hid hownr
      have HF := hid hfil
      clear hownr hfil c0 c1 c2 c3 hxl
      go_wp2
      go_region
      go_wp2
      have HL := lay_step HOr.out k (s k)
      have hxl : xs.length = l * 4 := HOr.out.1
      go_roundw
      case rel => exact ⟨k + 1, _, by omega, by go_num, HL.1.drew, filled_succ HF.out hlt hxl, HL.2.cell hcr (by simp), (hbr.grown HL.2 hbr.size (fun _ h => by cases h; omega)).drew, by simpa using hszr⟩
      case measure => simp [intOf]; omega
    obtain rfl : k = l := by omega
    have HOr := hid hownr
    have HF := hid hfil
    clear hownr hfil
    go_wp2
    go_ret
    exact ⟨_, rfl, ⟨_, _, hcr, filled_row HOr.out HF.out⟩, Nat.le_refl _, by omega, hbr⟩

end Go.Proofs.Qxb6605751a.Gr
