/-
  PLAIN: rows of subjects as cells; the subjects of a and then b; counting; and the contracts put together.
-/
import Derived.Test.Qxb6605751aGrGrant
import Derived.Lib.SmallJoins
namespace Go.Proofs.Qxb6605751a.Gr
open Go.RowKit

def four (x : Sub) : List Value := [.string x.kind, .string x.group, .string x.name, .string x.ns]
/-- The first k subjects as cells. -/
def flat (s : Nat → Sub) : Nat → List Value
  | 0 => []
  | k + 1 => flat s k ++ four (s k)

theorem flat_length (s : Nat → Sub) (k : Nat) : (flat s k).length = k * 4 := by
  induction k with
  | zero => rfl
  | succ k ih => simp only [flat, four, List.length_append, ih, List.length_cons, List.length_nil]; omega

theorem flat_one (s : Nat → Sub) (k : Nat) : ∀ u ∈ flat s k, u.oneCell' = true := by
  induction k with
  | zero => intro u hu; cases hu
  | succ k ih =>
    intro u hu
    rcases List.mem_append.1 hu with h | h
    · exact ih u h
    · simp only [four, List.mem_cons, List.not_mem_nil, or_false] at h
      rcases h with rfl | rfl | rfl | rfl <;> rfl

/-- The cells of a row of subjects that lies in memory. -/
theorem flat_cells {w : World} {b off : Nat} {s : Nat → Sub} {n : Nat} (h : ∀ j, j < n → SubAt w b (off + j * 4) (s j)) : ∀ j u, (flat s n)[j]? = some u → w.cell? ⟨b, off + j, none⟩ = some u := by
  induction n with
  | zero => intro j u hu; simp [flat] at hu
  | succ n ih =>
    intro j u hu
    have hl := flat_length s n
    by_cases hj : j < n * 4
    · rw [flat, List.getElem?_append_left (by omega)] at hu
      exact ih (fun i hi => h i (by omega)) j u hu
    · rw [flat, List.getElem?_append_right (by omega), hl] at hu
      obtain ⟨c0, c1, c2, c3⟩ := h n (by omega)
      obtain ⟨r, rfl⟩ : ∃ r, j = n * 4 + r := ⟨j - n * 4, by omega⟩
      rw [show n * 4 + r - n * 4 = r from by omega] at hu
      rw [← Nat.add_assoc]
      match r, hu with
      | 0, hu => simp [four] at hu; subst hu; exact c0
      | 1, hu => simp [four] at hu; subst hu; exact c1
      | 2, hu => simp [four] at hu; subst hu; exact c2
      | 3, hu => simp [four] at hu; subst hu; exact c3
      | r + 4, hu => simp [four] at hu

/-- And back: from the cells to the subjects. -/
theorem flat_at (s : Nat → Sub) (n j : Nat) (hj : j < n) : (flat s n)[j * 4]? = some (.string (s j).kind) ∧ (flat s n)[j * 4 + 1]? = some (.string (s j).group) ∧ (flat s n)[j * 4 + 2]? = some (.string (s j).name) ∧ (flat s n)[j * 4 + 3]? = some (.string (s j).ns) := by
  induction n with
  | zero => omega
  | succ n ih =>
    have hl := flat_length s n
    by_cases e : j = n
    · subst e
      refine ⟨?_, ?_, ?_, ?_⟩
      · rw [flat, List.getElem?_append_right (by omega), hl, show j * 4 - j * 4 = 0 from by omega]; rfl
      · rw [flat, List.getElem?_append_right (by omega), hl, show j * 4 + 1 - j * 4 = 1 from by omega]; rfl
      · rw [flat, List.getElem?_append_right (by omega), hl, show j * 4 + 2 - j * 4 = 2 from by omega]; rfl
      · rw [flat, List.getElem?_append_right (by omega), hl, show j * 4 + 3 - j * 4 = 3 from by omega]; rfl
    · obtain ⟨h0, h1, h2, h3⟩ := ih (by omega)
      refine ⟨?_, ?_, ?_, ?_⟩
      · rw [flat, List.getElem?_append_left (by omega)]; exact h0
      · rw [flat, List.getElem?_append_left (by omega)]; exact h1
      · rw [flat, List.getElem?_append_left (by omega)]; exact h2
      · rw [flat, List.getElem?_append_left (by omega)]; exact h3

/-- The subjects of a and then b. -/
def both (la : Nat) (sa sb : Nat → Sub) : Nat → Sub := fun j => if j < la then sa j else sb (j - la)

theorem flat_both_a (la : Nat) (sa sb : Nat → Sub) (k : Nat) (hk : k ≤ la) : flat (both la sa sb) k = flat sa k := by
  induction k with
  | zero => rfl
  | succ k ih => rw [flat, flat, ih (by omega)]; simp [both, show k < la from by omega]
theorem flat_both (la : Nat) (sa sb : Nat → Sub) (k : Nat) : flat (both la sa sb) (la + k) = flat sa la ++ flat sb k := by
  induction k with
  | zero => simp [flat, flat_both_a]
  | succ k ih => rw [← Nat.add_assoc, flat, flat, ih]; simp [both, show ¬ la + k < la from by omega]
theorem ents_both_a (la : Nat) (sa sb : Nat → Sub) (k : Nat) (hk : k ≤ la) : ents (both la sa sb) k = ents sa k := by
  induction k with
  | zero => rfl
  | succ k ih => rw [ents, ents, ih (by omega)]; simp [both, show k < la from by omega]
theorem ents_both (la : Nat) (sa sb : Nat → Sub) (k : Nat) : ents (both la sa sb) (la + k) = ents sa la ++ ents sb k := by
  induction k with
  | zero => simp [ents, ents_both_a]
  | succ k ih => rw [← Nat.add_assoc, ents, ents, ih]; simp [both, show ¬ la + k < la from by omega]
theorem EL_both (la lb : Nat) (sa sb : Nat → Sub) : EL (both la sa sb) (la + lb) = EL sa la + EL sb lb := by simp [EL, ents_both]
theorem EC_both (la lb : Nat) (sa sb : Nat → Sub) : EC (both la sa sb) (la + lb) = EC sa la ++ EC sb lb := by simp [EC, ents_both]
theorem shorts_both {la lb : Nat} {sa sb : Nat → Sub} (ha : Shorts sa la) (hb : Shorts sb lb) : Shorts (both la sa sb) (la + lb) := by
  intro j hj
  by_cases h : j < la
  · simp only [both, h, if_true]; exact ha j h
  · simp only [both, h, if_false]; exact hb (j - la) (by omega)

/-- An owned row that holds the cells of the subjects. -/
theorem own_row {w : World} {base e g l : Nat} {s : Nat → Sub} (h : w.ownsRow base e 4 (.slice (some ⟨g, 0, none⟩) l l) l (flat s l)) : SubRow w (some ⟨g, 0, none⟩) l s := by
  refine .inr ⟨g, 0, rfl, (h.lt _ rfl).2, fun j hj => ?_⟩
  obtain ⟨h0, h1, h2, h3⟩ := flat_at s l j hj
  refine ⟨?_, ?_, ?_, ?_⟩
  · rw [Nat.zero_add, h.cellAt _ (by omega)]; exact h0
  · rw [Nat.zero_add, h.cellAt _ (by omega)]; exact h1
  · rw [Nat.zero_add, h.cellAt _ (by omega)]; exact h2
  · rw [Nat.zero_add, h.cellAt _ (by omega)]; exact h3

/-- A row of subjects is still there later. -/
theorem SubRow.later {w w' : World} {a : Option Addr} {l B : Nat} {s : Nat → Sub} (h : SubRow w a l s) (hB : w.heap.size ≤ B) (hb : Below B w w') : SubRow w' a l s := by
  rcases h with h0 | ⟨b, off, ha, hlt, hc⟩
  · exact .inl h0
  refine .inr ⟨b, off, ha, by have := hb.size; omega, fun j hj => ?_⟩
  obtain ⟨c0, c1, c2, c3⟩ := hc j hj
  exact ⟨(hb.cell (by show b < B; omega)).trans c0, (hb.cell (by show b < B; omega)).trans c1, (hb.cell (by show b < B; omega)).trans c2, (hb.cell (by show b < B; omega)).trans c3⟩

theorem asGrown {w w' : World} (h : Below w.heap.size w w') (row : Option Nat) : w.grownBy w' row := ⟨h.os, h.tape, h.output, h.size, fun k hk _ => h.block k hk⟩

/-- zzBindingOf, whatever the slice. -/
theorem bind_any (a : Option Addr) (l cap : Nat) (s : Nat → Sub) (w : World) (hl : l ≤ 100000) (hnil : a = none → l = 0 ∧ cap = 0) (hr : SubRow w a l s) :
    Calls Try.prog 10 #[.slice a l cap] w fun e w' => ∃ p, e = .returned (.pointer (some ⟨p, 0, none⟩)) ∧ BindingAt w' p l s ∧ w.heap.size ≤ p ∧ p < w'.heap.size ∧ Below w.heap.size w w' := by
  cases a with
  | none =>
    obtain ⟨rfl, rfl⟩ := hnil rfl
    exact bind_nil s w
  | some x => exact bind_some x l cap s w hl hr

/-! The strings of the grantees, one by one. -/
def strAt (E : List (Bool × ByteArray)) (i : Nat) : ByteArray := (E[i]?.map (·.2)).getD ByteArray.empty
def markAt (E : List (Bool × ByteArray)) (i : Nat) : Bool := (E[i]?.map (·.1)).getD false
theorem EC_at (s : Nat → Sub) (n i : Nat) (hi : i < EL s n) : (EC s n)[i]? = some (.string (strAt (ents s n) i)) := by
  have h : i < (ents s n).length := hi
  simp [EC, strAt, h]

/-- How many of the first i grantees are groups'. -/
def GC (E : List (Bool × ByteArray)) (i : Nat) : Nat := ((E.take i).filter (·.1)).length
theorem GC_zero (E : List (Bool × ByteArray)) : GC E 0 = 0 := by simp [GC]
theorem GC_yes (E : List (Bool × ByteArray)) (i : Nat) (hi : i < E.length) (h : markAt E i = true) : GC E (i + 1) = GC E i + 1 := by
  simp only [GC, List.take_succ_eq_append_getElem hi, List.filter_append, List.length_append]
  have : E[i].1 = true := by simpa [markAt, hi] using h
  simp [this]
theorem GC_no (E : List (Bool × ByteArray)) (i : Nat) (hi : i < E.length) (h : markAt E i = false) : GC E (i + 1) = GC E i := by
  simp only [GC, List.take_succ_eq_append_getElem hi, List.filter_append, List.length_append]
  have : E[i].1 = false := by simpa [markAt, hi] using h
  simp [this]
theorem GC_le (E : List (Bool × ByteArray)) (i : Nat) : GC E i ≤ i := by
  have := List.length_filter_le (fun p : Bool × ByteArray => p.1) (E.take i)
  simp only [GC, List.length_take] at *
  omega

/-- How many groups are among the first k subjects. -/
def GS (s : Nat → Sub) (k : Nat) : Nat := ((ents s k).filter (·.1)).length
theorem GS_all (s : Nat → Sub) (n : Nat) : GC (ents s n) (EL s n) = GS s n := by simp [GC, GS, EL]
theorem GS_le (s : Nat → Sub) (k : Nat) : GS s k ≤ k := by
  have := List.length_filter_le (fun p : Bool × ByteArray => p.1) (ents s k)
  have := EL_le s k
  simp only [GS, EL] at *
  omega
theorem GS_some (s : Nat → Sub) (k : Nat) (p : Bool × ByteArray) (h : ent (s k) = [p]) : GS s (k + 1) = GS s k + (if p.1 = true then 1 else 0) := by
  simp only [GS, ents, h, List.filter_append, List.length_append]
  split <;> simp_all
theorem GS_none (s : Nat → Sub) (k : Nat) (h : ent (s k) = []) : GS s (k + 1) = GS s k := by simp [GS, ents, h]

/-! zzIsGroupGrantee over a grantee. -/
theorem isGroup_user (y : ByteArray) (w : World) : Calls Try.prog 12 #[.string (uHead ++ y)] w fun e w' => e = .returned (.bool false) ∧ w = w' := by
  by_cases h : (uHead ++ y).size < 6
  · exact isGroup_short _ h w
  · refine isGroup_no _ (by omega) ?_ w
    rw [ByteArray.getElem_append_left (by decide)]
    decide

theorem isGroup_group (y : ByteArray) (w : World) : Calls Try.prog 12 #[.string (gHead ++ y)] w fun e w' => e = .returned (.bool true) ∧ w = w' := by
  have hs : 6 ≤ (gHead ++ y).size := by rw [ByteArray.size_append]; have : gHead.size = 6 := rfl; omega
  refine isGroup_yes _ hs w ?_ ?_ ?_ ?_ ?_ ?_
  all_goals (rw [ByteArray.getElem_append_left (by decide)]; decide)

theorem ent_forms (x : Sub) (p : Bool × ByteArray) (h : p ∈ ent x) : (∃ y, p = (false, uHead ++ y)) ∨ ∃ y, p = (true, gHead ++ y) := by
  unfold ent at h
  split at h
  · simp at h; exact .inl ⟨_, h⟩
  split at h
  · simp at h; exact .inr ⟨_, h⟩
  split at h
  · simp at h; exact .inl ⟨_, h⟩
  · cases h

theorem ents_forms (s : Nat → Sub) (n : Nat) (p : Bool × ByteArray) (h : p ∈ ents s n) : (∃ y, p = (false, uHead ++ y)) ∨ ∃ y, p = (true, gHead ++ y) := by
  induction n with
  | zero => cases h
  | succ n ih =>
    rcases List.mem_append.1 h with h | h
    · exact ih h
    · exact ent_forms _ _ h

theorem isGroup_at (s : Nat → Sub) (n i : Nat) (hi : i < EL s n) (w : World) : Calls Try.prog 12 #[.string (strAt (ents s n) i)] w fun e w' => e = .returned (.bool (markAt (ents s n) i)) ∧ w = w' := by
  have h : i < (ents s n).length := hi
  have e1 : strAt (ents s n) i = (ents s n)[i].2 := by simp [strAt, h]
  have e2 : markAt (ents s n) i = (ents s n)[i].1 := by simp [markAt, h]
  rw [e1, e2]
  rcases ents_forms s n _ (List.getElem_mem h) with ⟨y, hy⟩ | ⟨y, hy⟩
  · rw [hy]; exact isGroup_user y w
  · rw [hy]; exact isGroup_group y w

end Go.Proofs.Qxb6605751a.Gr
