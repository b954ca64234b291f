/-
  'Rows.FnCloseMembersClosesAppendedMembersSaid': THE ROW's STEP, after the guide's shell for a law over slices.
-/
import Derived.Test.Qxb6605751aCmWalk
import Derived.ProofKit
import Derived.OpenShut
import Derived.ShutString
import Derived.ChangeOld
namespace Go.Proofs.Qxb6605751a.Cm
open Go.ChangeShapes Go.WideShapes Go.ChangeAt Go.RowKit
open Go.ChangeMaps (open_string shut_string)
set_option linter.unusedVariables false

theorem own : ownKnob Try.prog.godebug = none := by kernel_rfl
theorem laidOut : laidOutB Try.prog = true := by kernel_rfl

/-- A slice of bytes that came in, as the walk wants it. -/
theorem preRow_of {w : World} {x : Addr} {len cap : Nat} {zs : List Int} (hl : len ≤ cap) (hz : zs.length = cap) (hcell : ∀ i, i < zs.length → w.cell? (x.add i) = some (.int .u8 (zs.getD i 0))) :
    PreRow w (some x) len cap ((zs.take len).map (Value.int .u8)) := by
  refine ⟨by simp; omega, fun h => (by cases h), ?_, ?_, ?_⟩
  · intro ad ha j u hu
    obtain rfl := Option.some.inj ha
    have hj : j < len ∧ j < zs.length := by
      have := (List.getElem?_eq_some_iff.1 hu).1
      simp at this
      omega
    rw [hcell j hj.2]
    simp [hj.1, hj.2] at hu
    rw [← hu]
    simp [hj.2]
  · intro u hu
    obtain ⟨z, _, rfl⟩ := List.mem_map.1 hu
    rfl
  · intro u hu
    obtain ⟨z, _, rfl⟩ := List.mem_map.1 hu
    exact ⟨z, rfl⟩

theorem preRow_nil (w : World) : PreRow w none 0 0 [] := ⟨rfl, fun _ => ⟨rfl, rfl⟩, fun _ h => (by cases h), fun _ h => (by cases h), bytes_nil⟩

/-- A slice of strings that came in, as the walk wants it. -/
theorem strRow_of {w : World} {x : Addr} {len cap : Nat} {ss : List ByteArray} (hl : len ≤ cap) (hz : ss.length = cap) (hcell : ∀ i, i < ss.length → w.cell? (x.add i) = some (.string (ss.getD i ByteArray.empty))) :
    StrRow w (some x) len (fun j => ss.getD j ByteArray.empty) := by
  by_cases h0 : len = 0
  · exact .inl h0
  refine .inr ?_
  obtain ⟨b, off, spot⟩ := x
  have hspot : spot = none := by simpa [Addr.add] using World.cell?_spot (hcell 0 (by omega))
  subst hspot
  refine ⟨b, off, rfl, ?_, fun j hj => ?_⟩
  · exact World.block_lt_of_cell? w _ (hcell 0 (by omega))
  · rw [← add_plain]
    exact hcell j (by omega)

set_option maxRecDepth 100000 in
theorem lifted (os : Os) (started : os.Started) (H : Type) (enc : TypeId × Value → H) :
    ReturnsInHanded {} Try.checked os 3 .any (Rows.fnCloseMembersClosesAppendedMembersSpec.pre6 enc Try.prog Try.f3 Rows.fnCloseMembersClosesAppendedMembersRow.domain false) (Rows.fnCloseMembersClosesAppendedMembersSpec.post enc Try.prog Try.f3 false true false false) := by
  refine returnsInHanded_of_change (C := Try.checked) own started (by kernel_rfl) Try.func3
    (ChangeSpec.witness6 (enc := enc) (C := Try.checked) false ⟨#[], #[.slice none 0 0, .slice none 0 0], []⟩ 8 (by kernel_rfl) (by kernel_rfl) (by kernel_rfl) (by kernel_rfl)) ?_
  intro W base args ds gs before hval0 hW hcnd _
  have hval : ∀ (j : Nat) t v, Try.f3.params[j]? = some t → args[j]? = some v → Value.okWide Try.prog W .any base t v := hval0
  have hW' := hW
  obtain ⟨p, q, hA0, hV, rfl, hfz, hnd⟩ := hW
  have hA : DataW.TrodAll enc Try.prog W 0 (fun _ => true) true Try.f3.params.toList args.toList ds p := hA0
  rw [Try.params3] at hA hval
  obtain ⟨v0, vs0, d0, ds0, p0, q0, hargs, rfl, rfl, h0, r0⟩ := trodAll_cons hA
  obtain ⟨v1, vs1, d1, ds1, p1, q1, rfl, rfl, rfl, h1, r1⟩ := trodAll_cons r0
  obtain ⟨rfl, rfl, rfl⟩ := trodAll_nil r1
  obtain rfl : args = #[v0, v1] := by cases args; simp_all
  obtain ⟨rfl, rfl⟩ := trodVars_none hV
  obtain ⟨a0, len0, cap0, rfl⟩ := okWide_slice Try.underlying22 (hval 0 22 v0 rfl rfl)
  obtain ⟨a1, len1, cap1, rfl⟩ := okWide_slice Try.underlying23 (hval 1 23 v1 rfl rfl)
  have k0 := h0
  have k1 := h1
  have lt0 : ∀ x ∈ p0, x.block < W.heap.size := by obtain ⟨m, hm⟩ := k0; exact DataW.trod_lt m _ _ _ hm
  have lt1 : ∀ x ∈ p1, x.block < W.heap.size := by obtain ⟨m, hm⟩ := k1; exact DataW.trod_lt m _ _ _ hm
  obtain ⟨pre, hl0, w0⟩ : ∃ pre, len0 ≤ maxLen ∧ PreRow W a0 len0 cap0 pre := by
    obtain ⟨fuel, hf⟩ := h0
    rcases open_ints Try.underlying22 Try.underlying5 (by kernel_rfl) hf with ⟨hcs, _⟩ | ⟨x, l, c, zs, hcs, _, hl, hm, hz, _, hcell, hwz⟩
    · simp [Value.cells] at hcs
      obtain ⟨rfl, rfl, rfl⟩ := hcs
      exact ⟨[], Nat.zero_le _, preRow_nil W⟩
    · simp [Value.cells] at hcs
      obtain ⟨rfl, rfl, rfl⟩ := hcs
      exact ⟨_, Nat.le_trans hl hm, preRow_of hl (by simpa using hz) hcell⟩
  obtain ⟨m, hl1, w1⟩ : ∃ m, len1 ≤ maxLen ∧ StrRow W a1 len1 m := by
    obtain ⟨fuel, hf⟩ := h1
    rcases open_strings Try.underlying23 Try.underlying9 (by kernel_rfl) hf with ⟨hcs, _⟩ | ⟨x, l, c, ss, hcs, _, hl, hm, hz, _, hcell, hwz⟩
    · simp [Value.cells] at hcs
      obtain ⟨rfl, rfl, rfl⟩ := hcs
      exact ⟨fun _ => ByteArray.empty, Nat.zero_le _, .inl rfl⟩
    · simp [Value.cells] at hcs
      obtain ⟨rfl, rfl, rfl⟩ := hcs
      exact ⟨_, Nat.le_trans hl hm, strRow_of hl (by simpa using hz) hcell⟩
  clear hA0 hval0
  refine (walk a0 len0 cap0 pre a1 len1 cap1 m W hl0 hl1 w0 w1).mono fun e W' ⟨he, bel⟩ => ?_
  subst he
  exact ⟨_, rfl, _, _, _, [], _, [], hW', trodAll_mk1 (shut_bool Try.underlying4 _), (trodAll_cons_mk (Below.trod laidOut (by kernel_rfl) (of_decide_eq_true (by kernel_rfl)) k0 bel lt0) (trodAll_cons_mk (Below.trod laidOut (by kernel_rfl) (of_decide_eq_true (by kernel_rfl)) k1 bel lt1) trodAll_mk0)), rfl, bel.frame _, fun h => by cases h⟩

theorem over : Rows.fnCloseMembersClosesAppendedMembersRow.holds Try.pinned (OpenSpec.ofChange Rows.fnCloseMembersClosesAppendedMembersSpec) :=
  OpenClaim.holds_of_wide 3 Try.f3 rfl rfl rfl rfl rfl rfl rfl ⟨rfl, rfl, rfl, rfl, rfl⟩ rfl rfl rfl rfl rfl (by kernel_rfl) Try.func3 (by kernel_rfl)
    (of_decide_eq_true (by kernel_rfl)) (by unfold Func.isWrapper; first | (rw [if_pos (by decide +kernel)]; kernel_rfl) | (rw [if_neg (by decide +kernel)]; exact ⟨rfl, rfl⟩))
    (fun os started H enc _ => lifted os started H enc)

end Go.Proofs.Qxb6605751a.Cm
namespace Go.Proofs.Qxb6605751a

/-- THE STATEMENT -/
theorem closeMembers_proved : Rows.FnCloseMembersClosesAppendedMembersSaid := Cm.over

end Go.Proofs.Qxb6605751a
