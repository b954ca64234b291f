/-
  THE WALKS of the cloning callees: zzCloneStrings (7), zzCloneInts (8), zzCloneStringLists (9).
-/
import Derived.Test.Qxb6605776aSeSmall
import Derived.Maps.RangeWalk
namespace Go.Proofs.Qxb6605776a.Se
open Go.RowKit

theorem Try.info9 : (Try.prog.info? 9).map (fun i => (i.zero, i.size, i.bytes)) = some (some (.string ⟨#[]⟩), 1, 16) := by kernel_rfl
theorem Try.info3 : (Try.prog.info? 3).map (fun i => (i.zero, i.size, i.bytes)) = some (some (.int .i64 0), 1, 8) := by kernel_rfl
theorem Try.info22 : (Try.prog.info? 22).map (fun i => (i.zero, i.size, i.bytes)) = some (some (.slice none 0 0), 1, 24) := by kernel_rfl

/-- The first k cells are those of f. -/
def Upto (f : Nat → Value) (xs : List Value) (k : Nat) : Prop := ∀ j, j < k → xs[j]? = some (f j)
theorem upto_zero (f : Nat → Value) (xs : List Value) : Upto f xs 0 := fun j hj => by omega
theorem upto_succ {f : Nat → Value} {xs : List Value} {k : Nat} (h : Upto f xs k) (hk : k < xs.length) : Upto f (xs.set k (f k)) (k + 1) := by
  intro j hj
  rw [List.getElem?_set]
  by_cases e : k = j
  · subst e; simp [hk]
  · rw [if_neg e]; exact h j (by omega)

theorem StrRow.later {w w' : World} {B C : Nat} {a : Option Addr} {l : Nat} {m : Nat → ByteArray} (h : StrRow w B a l m) (hC : w.heap.size ≤ C) (hb : Below C w w') : StrRow w' B a l m := by
  rcases h with h0 | ⟨b, off, ha, hB, hlt, hc⟩
  · exact .inl h0
  exact .inr ⟨b, off, ha, hB, by have := hb.size; omega, fun j hj => (hb.cell (by show b < C; omega)).trans (hc j hj)⟩
theorem StrRow.low {w : World} {B B' : Nat} {a : Option Addr} {l : Nat} {m : Nat → ByteArray} (h : StrRow w B a l m) (hB : B' ≤ B) : StrRow w B' a l m := by
  rcases h with h0 | ⟨b, off, ha, hb, hlt, hc⟩
  · exact .inl h0
  · exact .inr ⟨b, off, ha, by omega, hlt, hc⟩
theorem IntRow.later {w w' : World} {B C : Nat} {a : Option Addr} {l : Nat} {o : Nat → Int} (h : IntRow w B a l o) (hC : w.heap.size ≤ C) (hb : Below C w w') : IntRow w' B a l o := by
  rcases h with h0 | ⟨b, off, ha, hB, hlt, hc⟩
  · exact .inl h0
  exact .inr ⟨b, off, ha, hB, by have := hb.size; omega, fun j hj => (hb.cell (by show b < C; omega)).trans (hc j hj)⟩
theorem ListRow.later {w w' : World} {B C : Nat} {a : Option Addr} {l : Nat} {n : Nat → Nat} {M : Nat → Nat → ByteArray} (h : ListRow w B a l n M) (hC : w.heap.size ≤ C) (hb : Below C w w') : ListRow w' B a l n M := by
  rcases h with h0 | ⟨b, off, ha, hB, hlt, hc⟩
  · exact .inl h0
  refine .inr ⟨b, off, ha, hB, by have := hb.size; omega, fun j hj => ?_⟩
  obtain ⟨aj, cj, h1, h2, h3⟩ := hc j hj
  exact ⟨aj, cj, (hb.cell (by show b < C; omega)).trans h1, h2.later hC hb, h3⟩

theorem StrRow.set {w : World} {B : Nat} {a : Option Addr} {l : Nat} {m : Nat → ByteArray} (h : StrRow w B a l m) {p : Addr} (hp : p.block < B) (v : Value) : StrRow (w.setCell p v) B a l m := by
  rcases h with h0 | ⟨b, off, ha, hB, hlt, hc⟩
  · exact .inl h0
  refine .inr ⟨b, off, ha, hB, by simpa using hlt, fun j hj => ?_⟩
  have e : (w.setCell p v).cell? ⟨b, off + j, none⟩ = w.cell? ⟨b, off + j, none⟩ := World.cell?_of_block (Below.heap_setCell w p v b (by omega))
  rw [e]
  exact hc j hj

theorem asGrown {w w' : World} (h : Below w.heap.size w w') (row : Option Nat) : w.grownBy w' row := ⟨h.os, h.tape, h.output, h.size, fun k hk _ => h.block k hk⟩

set_option maxHeartbeats 400000 in
theorem clone_any (B : Nat) (a : Option Addr) (l c : Nat) (m : Nat → ByteArray) (w : World) (hl : l ≤ 1048576) (hn : NilOk a l) (hr : StrRow w B a l m) :
    Calls Try.prog 7 #[.slice a l c] w fun e w' => ∃ a' c', e = .returned (.slice a' l c') ∧ StrRow w' w.heap.size a' l m ∧ l ≤ c' ∧ NilOk a' l ∧ Below w.heap.size w w' := by
  cases a with
  | none =>
    obtain rfl := hn rfl
    have hq := fun (w : World) => Lib.run_eql_slice_nil (P := Try.prog) w 22 9 none 0 c 0 0 Try.underlying22
    go_enter Try.func7, Try.ntmps7
    go_wp2
    go_ret
    exact ⟨none, 0, rfl, .inl rfl, Nat.le_refl _, fun _ => rfl, Below.refl _ _⟩
  | some x =>
    obtain ⟨i0, hi, hz0, hz1, hz2⟩ := info_parts Try.info9
    have HR := hid hr
    clear hr hn
    have hq := fun (w : World) => Lib.run_eql_slice_nil (P := Try.prog) w 22 9 (some x) l c 0 0 Try.underlying22
    go_enter Try.func7, Try.ntmps7
    go_wp2_with (at_make; refine wpList_make_full _ rfl (.tmp 8) (.tmp 8) 22 rfl w.heap.size 9 i0 (.string ⟨#[]⟩) 1 Try.underlying22 hi hz0 hz1 .i64 .i64 _ _ l rfl rfl rfl rfl ?b2 ?b3 ?b4 ?_)
    case b2 => rw [hz2]; omega
    case b3 => unfold maxLen; omega
    case b4 => exact Nat.le_refl _
    intro w1 hown hg
    have hb1 : Below w.heap.size w w1 := (Below.refl _ _).grown hg (Nat.le_refl _) (fun _ h => by cases h)
    have HO := hid hown
    clear hown hg
    go_wp2
    go_loopw [4] (fun i wr => ∃ (k : Nat) (xs : List Value), k ≤ l ∧ i = .int .i64 k ∧ wr.ownsRow w.heap.size 9 1 (.slice (some ⟨w.heap.size, 0, none⟩) l l) l xs ∧ Upto (fun j => .string (m j)) xs k ∧ Below w.heap.size w wr) (fun i _ => l - (intOf i).toNat)
    case atStart => exact ⟨0, _, Nat.zero_le _, rfl, HO.out, upto_zero _ _, hb1⟩
    case round =>
      obtain ⟨k, xs, hk, rfl, hownr, hup, hbr⟩ := hrel
      have HOr := hid hownr
      have HU := hid hup
      clear hownr hup
      by_cases hlt : k < l
      · rcases HR.out with h0 | ⟨b, off, ha, _, hb, hc⟩
        · omega
        cases ha
        have hxl : xs.length = l := by simpa using HOr.out.1
        have g0 : wr.cell? ⟨b, off + k, none⟩ = some (.string (m k)) := (hbr.cell (by exact hb)).trans (hc k hlt)
        obtain ⟨y0, d0⟩ : ∃ y, wr.cell? ⟨w.heap.size, k, none⟩ = some y := ⟨_, (HOr.out.cellAt _ (by omega)).trans (List.getElem?_eq_getElem (by omega))⟩
        have f0 := HOr.out.frozenAt k
        have hki : (k : Int) < (l : Int) := by omega
        clear hc
        go_wp2
        have HL := HOr.out.stored k (.string (m k))
        go_roundw
        case rel => exact ⟨k + 1, _, by omega, by go_num, HL.1, upto_succ HU.out (by omega), hbr.grown HL.2 hbr.size (fun _ h => by cases h; exact Nat.le_refl _)⟩
        case measure => simp [intOf]; omega
      obtain rfl : k = l := by omega
      go_wp2
      go_ret
      refine ⟨_, _, rfl, .inr ⟨w.heap.size, 0, rfl, Nat.le_refl _, (HOr.out.lt _ rfl).2, fun j hj => ?_⟩, Nat.le_refl _, fun h => (by cases h), hbr⟩
      rw [Nat.zero_add, HOr.out.cellAt _ (by omega)]
      exact HU.out j hj

set_option maxHeartbeats 400000 in
theorem cloneInts_any (B : Nat) (a : Option Addr) (l c : Nat) (m : Nat → Int) (w : World) (hl : l ≤ 1048576) (hn : NilOk a l) (hr : IntRow w B a l m) :
    Calls Try.prog 8 #[.slice a l c] w fun e w' => ∃ a' c', e = .returned (.slice a' l c') ∧ IntRow w' w.heap.size a' l m ∧ l ≤ c' ∧ NilOk a' l ∧ Below w.heap.size w w' := by
  cases a with
  | none =>
    obtain rfl := hn rfl
    have hq := fun (w : World) => Lib.run_eql_slice_nil (P := Try.prog) w 23 3 none 0 c 0 0 Try.underlying23
    go_enter Try.func8, Try.ntmps8
    go_wp2
    go_ret
    exact ⟨none, 0, rfl, .inl rfl, Nat.le_refl _, fun _ => rfl, Below.refl _ _⟩
  | some x =>
    obtain ⟨i0, hi, hz0, hz1, hz2⟩ := info_parts Try.info3
    have HR := hid hr
    clear hr hn
    have hq := fun (w : World) => Lib.run_eql_slice_nil (P := Try.prog) w 23 3 (some x) l c 0 0 Try.underlying23
    go_enter Try.func8, Try.ntmps8
    go_wp2_with (at_make; refine wpList_make_full _ rfl (.tmp 8) (.tmp 8) 23 rfl w.heap.size 3 i0 (.int .i64 0) 1 Try.underlying23 hi hz0 hz1 .i64 .i64 _ _ l rfl rfl rfl rfl ?b2 ?b3 ?b4 ?_)
    case b2 => rw [hz2]; omega
    case b3 => unfold maxLen; omega
    case b4 => exact Nat.le_refl _
    intro w1 hown hg
    have hb1 : Below w.heap.size w w1 := (Below.refl _ _).grown hg (Nat.le_refl _) (fun _ h => by cases h)
    have HO := hid hown
    clear hown hg
    go_wp2
    go_loopw [4] (fun i wr => ∃ (k : Nat) (xs : List Value), k ≤ l ∧ i = .int .i64 k ∧ wr.ownsRow w.heap.size 3 1 (.slice (some ⟨w.heap.size, 0, none⟩) l l) l xs ∧ Upto (fun j => .int .i64 (m j)) xs k ∧ Below w.heap.size w wr) (fun i _ => l - (intOf i).toNat)
    case atStart => exact ⟨0, _, Nat.zero_le _, rfl, HO.out, upto_zero _ _, hb1⟩
    case round =>
      obtain ⟨k, xs, hk, rfl, hownr, hup, hbr⟩ := hrel
      have HOr := hid hownr
      have HU := hid hup
      clear hownr hup
      by_cases hlt : k < l
      · rcases HR.out with h0 | ⟨b, off, ha, _, hb, hc⟩
        · omega
        cases ha
        have hxl : xs.length = l := by simpa using HOr.out.1
        have g0 : wr.cell? ⟨b, off + k, none⟩ = some (.int .i64 (m k)) := (hbr.cell (by exact hb)).trans (hc k hlt)
        obtain ⟨y0, d0⟩ : ∃ y, wr.cell? ⟨w.heap.size, k, none⟩ = some y := ⟨_, (HOr.out.cellAt _ (by omega)).trans (List.getElem?_eq_getElem (by omega))⟩
        have f0 := HOr.out.frozenAt k
        have hki : (k : Int) < (l : Int) := by omega
        clear hc
        go_wp2
        have HL := HOr.out.stored k (.int .i64 (m k))
        go_roundw
        case rel => exact ⟨k + 1, _, by omega, by go_num, HL.1, upto_succ HU.out (by omega), hbr.grown HL.2 hbr.size (fun _ h => by cases h; exact Nat.le_refl _)⟩
        case measure => simp [intOf]; omega
      obtain rfl : k = l := by omega
      go_wp2
      go_ret
      refine ⟨_, _, rfl, .inr ⟨w.heap.size, 0, rfl, Nat.le_refl _, (HOr.out.lt _ rfl).2, fun j hj => ?_⟩, Nat.le_refl _, fun h => (by cases h), hbr⟩
      rw [Nat.zero_add, HOr.out.cellAt _ (by omega)]
      exact HU.out j hj

/-- What the row of new slices holds after k rounds. -/
def ListsUpto (w : World) (B : Nat) (n : Nat → Nat) (M : Nat → Nat → ByteArray) (xs : List Value) (k : Nat) : Prop :=
  ∀ j, j < k → ∃ aj cj, xs[j]? = some (.slice aj (n j) cj) ∧ StrRow w B aj (n j) (M j) ∧ NilOk aj (n j)

theorem listsUpto_succ {w w2 : World} {B C : Nat} {n : Nat → Nat} {M : Nat → Nat → ByteArray} {xs : List Value} {k g : Nat} {a' : Option Addr} {c' : Nat} (h : ListsUpto w B n M xs k) (hk : k < xs.length) (hC : w.heap.size ≤ C) (hb : Below C w w2) (hg : g < B)
    (hs : StrRow w2 B a' (n k) (M k)) (hn : NilOk a' (n k)) : ListsUpto (w2.setCell ⟨g, k, none⟩ (.slice a' (n k) c')) B n M (xs.set k (.slice a' (n k) c')) (k + 1) := by
  intro j hj
  by_cases e : j = k
  · subst e
    exact ⟨a', c', by simp [hk], hs.set hg _, hn⟩
  · obtain ⟨aj, cj, h1, h2, h3⟩ := h j (by omega)
    exact ⟨aj, cj, by rw [List.getElem?_set, if_neg (by omega)]; exact h1, (h2.later hC hb).set hg _, h3⟩

set_option maxHeartbeats 1000000 in
theorem cloneLists_any (B : Nat) (a : Option Addr) (l c : Nat) (n : Nat → Nat) (M : Nat → Nat → ByteArray) (w : World) (hl : l ≤ 1048576) (hls : ∀ j, j < l → n j ≤ 1048576) (hn : NilOk a l) (hr : ListRow w B a l n M) :
    Calls Try.prog 9 #[.slice a l c] w fun e w' => ∃ a' c', e = .returned (.slice a' l c') ∧ ListRow w' w.heap.size a' l n M ∧ l ≤ c' ∧ NilOk a' l ∧ Below w.heap.size w w' := by
  cases a with
  | none =>
    obtain rfl := hn rfl
    have hq := fun (w : World) => Lib.run_eql_slice_nil (P := Try.prog) w 24 22 none 0 c 0 0 Try.underlying24
    go_enter Try.func9, Try.ntmps9
    go_wp2
    go_ret
    exact ⟨none, 0, rfl, .inl rfl, Nat.le_refl _, fun _ => rfl, Below.refl _ _⟩
  | some x =>
    obtain ⟨i0, hi, hz0, hz1, hz2⟩ := info_parts Try.info22
    have HR := hid hr
    have HLS := hid hls
    clear hr hn hls
    have hq := fun (w : World) => Lib.run_eql_slice_nil (P := Try.prog) w 24 22 (some x) l c 0 0 Try.underlying24
    go_enter Try.func9, Try.ntmps9
    go_wp2_with (at_make; refine wpList_make_full _ rfl (.tmp 8) (.tmp 8) 24 rfl w.heap.size 22 i0 (.slice none 0 0) 1 Try.underlying24 hi hz0 hz1 .i64 .i64 _ _ l rfl rfl rfl rfl ?b2 ?b3 ?b4 ?_)
    case b2 => rw [hz2]; omega
    case b3 => unfold maxLen; omega
    case b4 => exact Nat.le_refl _
    intro w1 hown hg
    have hb1 : Below w.heap.size w w1 := (Below.refl _ _).grown hg (Nat.le_refl _) (fun _ h => by cases h)
    have HO := hid hown
    clear hown hg
    go_wp2
    go_loopw [4] (fun i wr => ∃ (k : Nat) (xs : List Value), k ≤ l ∧ i = .int .i64 k ∧ wr.ownsRow w.heap.size 22 1 (.slice (some ⟨w.heap.size, 0, none⟩) l l) l xs ∧ ListsUpto wr (w.heap.size + 1) n M xs k ∧ Below w.heap.size w wr) (fun i _ => l - (intOf i).toNat)
    case atStart => exact ⟨0, _, Nat.zero_le _, rfl, HO.out, fun j hj => by omega, hb1⟩
    case round =>
      obtain ⟨k, xs, hk, rfl, hownr, hup, hbr⟩ := hrel
      have HOr := hid hownr
      have HU := hid hup
      clear hownr hup
      by_cases hlt : k < l
      · rcases HR.out with h0 | ⟨b, off, ha, _, hb, hc⟩
        · omega
        cases ha
        obtain ⟨aj, cj, hcj, hsj, hnj⟩ := hc k hlt
        have hxl : xs.length = l := by simpa using HOr.out.1
        have hsz : w.heap.size < wr.heap.size := (HOr.out.lt _ rfl).2
        have g0 : wr.cell? ⟨b, off + k, none⟩ = some (.slice aj (n k) cj) := (hbr.cell (by exact hb)).trans hcj
        have hki : (k : Int) < (l : Int) := by omega
        have HC := hid (clone_any B aj (n k) cj (M k) wr (HLS.out k hlt) hnj (hsj.later (Nat.le_refl _) hbr))
        clear hc hcj hsj hnj
        go_wp2_with fail
        refine HC.out.mono ?_
        rintro e w2 ⟨a', c', rfl, hs', _, hn', hb2⟩
        have HS := hid hs'
        have HN := hid hn'
        have HO2 := hid (HOr.out.kept (asGrown hb2 Option.none) (Or.inr (by simp [Value.ownBlock])))
        clear hs' hn' HC
        obtain ⟨y0, d0⟩ : ∃ y, w2.cell? ⟨w.heap.size, k, none⟩ = some y := ⟨_, (HO2.out.cellAt _ (by omega)).trans (List.getElem?_eq_getElem (by omega))⟩
        have f0 := HO2.out.frozenAt k
        go_wp2
        have HL := HO2.out.stored k (.slice a' (n k) c')
        have hbw : Below w.heap.size w w2 := hbr.trans (hb2.mono hbr.size)
        go_roundw
        case rel => exact ⟨k + 1, _, by omega, by go_num, HL.1, listsUpto_succ HU.out (by omega) (Nat.le_refl _) hb2 (Nat.lt_succ_self _) (HS.out.low (by omega)) HN.out, hbw.grown HL.2 hbw.size (fun _ h => by cases h; exact Nat.le_refl _)⟩
        case measure => simp [intOf]; omega
      obtain rfl : k = l := by omega
      go_wp2
      go_ret
      refine ⟨_, _, rfl, .inr ⟨w.heap.size, 0, rfl, Nat.le_refl _, (HOr.out.lt _ rfl).2, fun j hj => ?_⟩, Nat.le_refl _, fun h => (by cases h), hbr⟩
      obtain ⟨aj, cj, h1, h2, h3⟩ := HU.out j hj
      refine ⟨aj, cj, ?_, h2.low (by omega), h3⟩
      rw [Nat.zero_add, HOr.out.cellAt _ (by omega)]
      exact h1

end Go.Proofs.Qxb6605776a.Se
