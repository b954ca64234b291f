/-
  'Rows.FnBindingGranteesSplitsOverSubjectsSaid': THE ROW's STEP, after the guide's shell for a law over slices.
-/
import Derived.Test.Qxb6605751aGrMain
import Derived.ProofKit
import Derived.OpenShut
import Derived.ShutString
import Derived.ChangeOld
import Derived.Deep.Slices
namespace Go.Proofs.Qxb6605751a.Gr
open Go.ChangeShapes Go.WideShapes Go.ChangeAt Go.RowKit
set_option linter.unusedVariables false

theorem own : ownKnob Try.prog.godebug = none := by kernel_rfl
theorem laidOut : laidOutB Try.prog = true := by kernel_rfl
theorem cells31 : Try.prog.cellsOf 31 = 4 := by kernel_rfl
theorem cells9 : Try.prog.cellsOf 9 = 1 := by kernel_rfl

/-- One subject read out of four cells. -/
theorem sub_of {H : Type} {enc : TypeId × Value → H} {w : World} {base : Nat} {spare : Nat → Bool} {held : Bool} {fuel : Nat} {cs : List Value} {x : DataW H × List MemPlace} (h : DataW.trod enc Try.prog w base spare held fuel 31 cs = some x) :
    ∃ s : Sub, cs = [.string s.kind, .string s.group, .string s.name, .string s.ns] := by
  obtain ⟨y0, y1, y2, y3, n, _, hl, h0, h1, h2, h3⟩ := Joins.trod_struct4 Try.underlying31 h
  rw [cells31] at hl
  match cs, hl with
  | [c0, c1, c2, c3], _ =>
    simp [cells9] at h0 h1 h2 h3
    obtain ⟨a, e0, _, _⟩ := DataW.trod_string Try.underlying9 h0
    obtain ⟨b, e1, _, _⟩ := DataW.trod_string Try.underlying9 h1
    obtain ⟨c, e2, _, _⟩ := DataW.trod_string Try.underlying9 h2
    obtain ⟨d, e3, _, _⟩ := DataW.trod_string Try.underlying9 h3
    simp at e0 e1 e2 e3
    subst e0 e1 e2 e3
    exact ⟨⟨a, b, c, d⟩, rfl⟩

/-- A slice of subjects that came in, as the walk wants it. -/
theorem open_subs {H : Type} {enc : TypeId × Value → H} {w : World} {fuel : Nat} {a : Option Addr} {len cap : Nat} {x : DataW H × List MemPlace} (h : DataW.trod enc Try.prog w 0 (fun _ => true) true fuel 27 [.slice a len cap] = some x) :
    ∃ s, len ≤ maxLen ∧ (a = none → len = 0 ∧ cap = 0) ∧ SubRow w a len s := by
  rcases Deep.open_slice Try.underlying27 h with ⟨hcs, _⟩ | ⟨ad, l, c, m, n, D, Pl, hcs, _, hl, hm, hmm, _, hx⟩
  · simp at hcs
    obtain ⟨rfl, rfl, rfl⟩ := hcs
    exact ⟨fun _ => ⟨ByteArray.empty, ByteArray.empty, ByteArray.empty, ByteArray.empty⟩, Nat.zero_le _, fun _ => ⟨rfl, rfl⟩, .inl rfl⟩
  · simp at hcs hmm
    obtain ⟨rfl, rfl, rfl⟩ := hcs
    subst hmm
    by_cases h0 : len = 0
    · exact ⟨fun _ => ⟨ByteArray.empty, ByteArray.empty, ByteArray.empty, ByteArray.empty⟩, Nat.le_trans hl hm, fun h => (by cases h), .inl h0⟩
    have hsp : ad.spot = none := by
      obtain ⟨cs', h1, h2⟩ := hx 0 (by omega)
      rw [cells31] at h1
      obtain ⟨_, hlen, hcell⟩ := World.cells?_some h1
      obtain ⟨s, rfl⟩ := sub_of h2
      have e0 := hcell 0 (by omega)
      simpa [Addr.add] using World.cell?_spot e0
    obtain ⟨b, off, spot⟩ := ad
    simp at hsp
    subst hsp
    have each : ∀ i, i < len → ∃ s : Sub, SubAt w b (off + i * 4) s := by
      intro i hi
      obtain ⟨cs', h1, h2⟩ := hx i (by omega)
      rw [cells31] at h1
      obtain ⟨_, hlen, hcell⟩ := World.cells?_some h1
      obtain ⟨s, rfl⟩ := sub_of h2
      have e0 := hcell 0 (by omega)
      have e1 := hcell 1 (by omega)
      have e2 := hcell 2 (by omega)
      have e3 := hcell 3 (by omega)
      rw [Deep.add_add, add_plain] at e0 e1 e2 e3
      exact ⟨s, ⟨e0, e1, e2, e3⟩⟩
    refine ⟨fun i => if hi : i < len then (each i hi).choose else ⟨ByteArray.empty, ByteArray.empty, ByteArray.empty, ByteArray.empty⟩, Nat.le_trans hl hm, fun h => (by cases h), .inr ⟨b, off, rfl, ?_, ?_⟩⟩
    · have h1 := (each 0 (by omega)).choose_spec.c0
      exact World.block_lt_of_cell? w _ h1
    · intro j hj
      have := (each j hj).choose_spec
      simpa [hj] using this

set_option maxRecDepth 100000 in
theorem lifted (os : Os) (started : os.Started) (H : Type) (enc : TypeId × Value → H) :
    ReturnsInHanded {} Try.checked os 4 .any (Rows.fnBindingGranteesSplitsOverSubjectsSpec.pre6 enc Try.prog Try.f4 Rows.fnBindingGranteesSplitsOverSubjectsRow.domain false) (Rows.fnBindingGranteesSplitsOverSubjectsSpec.post enc Try.prog Try.f4 false true false false) := by
  refine returnsInHanded_of_change (C := Try.checked) own started (by kernel_rfl) Try.func4
    (ChangeSpec.witness6 (enc := enc) (C := Try.checked) false ⟨#[], #[.slice none 0 0, .slice none 0 0], []⟩ 8 (by kernel_rfl) (by kernel_rfl) (by kernel_rfl) (by kernel_rfl)) ?_
  intro W base args ds gs before hval0 hW hcnd _
  have hval : ∀ (j : Nat) t v, Try.f4.params[j]? = some t → args[j]? = some v → Value.okWide Try.prog W .any base t v := hval0
  have hW' := hW
  obtain ⟨p, q, hA0, hV, rfl, hfz, hnd⟩ := hW
  have hA : DataW.TrodAll enc Try.prog W 0 (fun _ => true) true Try.f4.params.toList args.toList ds p := hA0
  rw [Try.params4] at hA hval
  obtain ⟨v0, vs0, d0, ds0, p0, q0, hargs, rfl, rfl, h0, r0⟩ := trodAll_cons hA
  obtain ⟨v1, vs1, d1, ds1, p1, q1, rfl, rfl, rfl, h1, r1⟩ := trodAll_cons r0
  obtain ⟨rfl, rfl, rfl⟩ := trodAll_nil r1
  obtain rfl : args = #[v0, v1] := by cases args; simp_all
  obtain ⟨rfl, rfl⟩ := trodVars_none hV
  obtain ⟨a0, len0, cap0, rfl⟩ := okWide_slice Try.underlying27 (hval 0 27 v0 rfl rfl)
  obtain ⟨a1, len1, cap1, rfl⟩ := okWide_slice Try.underlying27 (hval 1 27 v1 rfl rfl)
  have k0 := h0
  have k1 := h1
  have lt0 : ∀ x ∈ p0, x.block < W.heap.size := by obtain ⟨m, hm⟩ := k0; exact DataW.trod_lt m _ _ _ hm
  have lt1 : ∀ x ∈ p1, x.block < W.heap.size := by obtain ⟨m, hm⟩ := k1; exact DataW.trod_lt m _ _ _ hm
  obtain ⟨fuel0, hf0⟩ := h0
  obtain ⟨fuel1, hf1⟩ := h1
  simp only [Value.cells] at hf0 hf1
  obtain ⟨s0, hl0, hn0, w0⟩ := open_subs hf0
  obtain ⟨s1, hl1, hn1, w1⟩ := open_subs hf1
  clear hA0 hval0
  refine (walk a0 len0 cap0 s0 a1 len1 cap1 s1 W hl0 hl1 hn0 hn1 w0 w1).mono fun e W' ⟨he, bel⟩ => ?_
  subst he
  exact ⟨_, rfl, _, _, _, [], _, [], hW', trodAll_mk1 (shut_bool Try.underlying4 _), (trodAll_cons_mk (Below.trod laidOut (by kernel_rfl) (of_decide_eq_true (by kernel_rfl)) k0 bel lt0) (trodAll_cons_mk (Below.trod laidOut (by kernel_rfl) (of_decide_eq_true (by kernel_rfl)) k1 bel lt1) trodAll_mk0)), rfl, bel.frame _, fun h => by cases h⟩

theorem over : Rows.fnBindingGranteesSplitsOverSubjectsRow.holds Try.pinned (OpenSpec.ofChange Rows.fnBindingGranteesSplitsOverSubjectsSpec) :=
  OpenClaim.holds_of_wide 4 Try.f4 rfl rfl rfl rfl rfl rfl rfl ⟨rfl, rfl, rfl, rfl, rfl⟩ rfl rfl rfl rfl rfl (by kernel_rfl) Try.func4 (by kernel_rfl)
    (of_decide_eq_true (by kernel_rfl)) (by unfold Func.isWrapper; first | (rw [if_pos (by decide +kernel)]; kernel_rfl) | (rw [if_neg (by decide +kernel)]; exact ⟨rfl, rfl⟩))
    (fun os started H enc _ => lifted os started H enc)

end Go.Proofs.Qxb6605751a.Gr
namespace Go.Proofs.Qxb6605751a

/-- THE STATEMENT -/
theorem bindingGrantees_proved : Rows.FnBindingGranteesSplitsOverSubjectsSaid := Gr.over

end Go.Proofs.Qxb6605751a
