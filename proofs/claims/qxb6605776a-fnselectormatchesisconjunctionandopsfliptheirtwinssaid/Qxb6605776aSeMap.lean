/-
  THE WALKS over the labels' map: zzsLabels (10), the closure ZZmatches$1 (15).
-/
import Derived.Test.Qxb6605776aSeClone
import Derived.Maps.OwnSet
import Derived.Maps.StringElems
import Derived.StringKeys
import Derived.BigRegion
namespace Go.Proofs.Qxb6605776a.Se
open Go.RowKit Go.Maps Go.WideMaps

theorem law : Keyed Try.prog 9 := string_keyed Try.underlying9
theorem zero9 (w : World) : (zeroValue 9).run Try.prog w = .ok (.string ⟨#[]⟩) w := by kernel_rfl

/-- The labels' map in memory: block b reads as the datum D. -/
def MapAt (w : World) (b n : Nat) (D : DataW Unit) : Prop := w.ownsMap Try.prog 9 (plainElem Try.prog 9) b n D

theorem run_makeMap_hint (w : World) (n : Int) : (Instr.makeMap 30 (some (.int .i64 n))).run Try.prog w = .ok (.map (some w.heap.size)) (w.alloc (.map #[] 0)) := by
  simp [Instr.makeMap, run_underlying Try.underlying30, asInt]
  rfl

set_option maxHeartbeats 1000000 in
theorem labels_any (a3 : Option Addr) (l c3 : Nat) (m3 : Nat → ByteArray) (a4 : Option Addr) (c4 : Nat) (m4 : Nat → ByteArray) (w : World) (hl : l ≤ 1048576) (hs3 : ∀ j, j < l → (m3 j).size ≤ maxLen) (hs4 : ∀ j, j < l → (m4 j).size ≤ maxLen) (h3 : StrRow w 0 a3 l m3) (h4 : StrRow w 0 a4 l m4) :
    Calls Try.prog 10 #[.slice a3 l c3, .slice a4 l c4] w fun e w' => ∃ D, e = .returned (.map (some w.heap.size)) ∧ MapAt w' w.heap.size l D ∧ Below w.heap.size w w' := by
  have hmm := run_makeMap_hint
  have H3 := hid h3
  have H4 := hid h4
  have S3 := hid hs3
  have S4 := hid hs4
  clear h3 h4 hs3 hs4
  go_enter Try.func10, Try.ntmps10
  go_wp2
  go_loopw [6] (fun i wr => ∃ (k : Nat) (D : DataW Unit), k ≤ l ∧ i = .int .i64 k ∧ MapAt wr w.heap.size k D ∧ Below w.heap.size w wr) (fun i _ => l - (intOf i).toNat)
  case atStart => exact ⟨0, _, Nat.zero_le _, rfl, World.ownsMap_made _ _ _ _, (Below.refl _ _).alloc (Nat.le_refl _) _⟩
  case round =>
    obtain ⟨k, D, hk, rfl, hm, hbr⟩ := hrel
    have HM := hid hm
    clear hm
    by_cases hlt : k < l
    · rcases H3.out with h0 | ⟨b, off, ha, _, hb, hc⟩
      · omega
      rcases H4.out with h0 | ⟨b', off', ha', _, hb', hc'⟩
      · omega
      subst ha ha'
      have g3 : wr.cell? ⟨b, off + k, none⟩ = some (.string (m3 k)) := (hbr.cell (by exact hb)).trans (hc k hlt)
      have g4 : wr.cell? ⟨b', off' + k, none⟩ = some (.string (m4 k)) := (hbr.cell (by exact hb')).trans (hc' k hlt)
      have hki : (k : Int) < (l : Int) := by omega
      obtain ⟨w', hrun, hm', hg'⟩ := World.ownsMap.update (t := 30) (World.ownsMap.drew HM.out) law Try.underlying30 (by unfold maxLen; omega) (keyOf_string_mk Try.underlying9 (S3.out k hlt)) (plainElem_string Try.underlying9 (S4.out k hlt))
      clear hc hc'
      have HM' := hid hm'
      have HG' := hid hg'
      clear hm' hg'
      go_wp2
      go_region
      go_wp2
      go_roundw
      case rel => exact ⟨k + 1, _, by omega, by go_num, HM'.out, hbr.grown (w := wr) ⟨HG'.out.os, HG'.out.tape, HG'.out.output, HG'.out.size, HG'.out.block⟩ hbr.size (fun _ h => by cases h; exact Nat.le_refl _)⟩
      case measure => simp [intOf]; omega
    obtain rfl : k = l := by omega
    go_wp2
    go_ret
    exact ⟨_, rfl, HM.out, hbr⟩

/-- The label's value, and whether there is one. -/
def valOf (D : DataW Unit) (key : ByteArray) : ByteArray := match D.atKey (.string key.data.toList) (.lit (.string [])) with | .lit (.string bs) => ⟨bs.toArray⟩ | _ => ByteArray.empty
def okOf (D : DataW Unit) (key : ByteArray) : Bool := Maps.has D (.string key.data.toList)

theorem look_run {w : World} {b n : Nat} {D : DataW Unit} (h : MapAt w b n D) (key : ByteArray) (hk : key.size ≤ maxLen) :
    (Instr.lookup 30 (.map (some b)) (.string key) true).run Try.prog w = .ok (.tuple #[.string (valOf D key), .bool (okOf D key)]) w := by
  obtain ⟨v, ps, hrun, hv⟩ := World.ownsMap.look_ok (t := 30) h law Try.underlying30 (zero9 w) (plainElem_string Try.underlying9 (by unfold maxLen; decide)) (keyOf_string_mk Try.underlying9 hk)
  obtain ⟨s, rfl, hz, _⟩ := plainElem_string_inv Try.underlying9 hv
  simp only [Prod.mk.injEq] at hz
  have e : valOf D key = s := by
    unfold valOf
    rw [hz.1]
  rw [hrun, e]
  rfl

theorem MapAt.later {w w' : World} {b n C : Nat} {D : DataW Unit} (h : MapAt w b n D) (hC : w.heap.size ≤ C) (hb : Below C w w') : MapAt w' b n D := by
  have hlt := World.ownsMap.lt h
  obtain ⟨es, clock, h1, h2⟩ := h
  exact ⟨es, clock, by rw [hb.block b (by omega)]; exact h1, h2⟩

/-- The closure of ZZmatches: it looks its key up. -/
theorem label_any (key : ByteArray) (p b n : Nat) (D : DataW Unit) (w : World) (hk : key.size ≤ maxLen) (hp : w.cell? ⟨p, 0, none⟩ = some (.map (some b))) (hm : MapAt w b n D) :
    Calls Try.prog 15 #[.string key, .pointer (some ⟨p, 0, none⟩)] w fun e w' => e = .returned (.tuple #[.string (valOf D key), .bool (okOf D key)]) ∧ w = w' := by
  have hl := look_run hm key hk
  clear hm
  go_enter Try.func15, Try.ntmps15
  go_wp2
  go_ret2
  exact ⟨rfl, rfl⟩

end Go.Proofs.Qxb6605776a.Se
