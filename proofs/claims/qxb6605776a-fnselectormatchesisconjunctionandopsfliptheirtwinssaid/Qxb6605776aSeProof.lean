/-
  'Rows.FnSelectorMatchesIsConjunctionAndOpsFlipTheirTwinsSaid': THE ROW's STEP, after the guide's shell for a law over slices.
-/
import Derived.Test.Qxb6605776aSeMain
import Derived.ProofKit
import Derived.OpenShut
import Derived.ShutString
import Derived.ChangeOld
import Derived.Deep.Slices
namespace Go.Proofs.Qxb6605776a.Se
open Go.ChangeShapes Go.WideShapes Go.ChangeAt Go.RowKit
set_option linter.unusedVariables false

theorem own : ownKnob Try.prog.godebug = none := by kernel_rfl
theorem laidOut : laidOutB Try.prog = true := by kernel_rfl
theorem cells22 : Try.prog.cellsOf 22 = 1 := by kernel_rfl
theorem cells9 : Try.prog.cellsOf 9 = 1 := by kernel_rfl
theorem cells3 : Try.prog.cellsOf 3 = 1 := by kernel_rfl

section
variable {H : Type} {enc : TypeId × Value → H} {w : World}

/-- A slice of strings that came in. -/
theorem open_strs {fuel : Nat} {a : Option Addr} {l c : Nat} {x : DataW H × List MemPlace} (h : DataW.trod enc Try.prog w 0 (fun _ => true) true fuel 22 [.slice a l c] = some x) :
    ∃ m, l ≤ maxLen ∧ (∀ j, j < l → (m j).size ≤ maxLen) ∧ StrRow w 0 a l m ∧ NilOk a l := by
  rcases open_strings Try.underlying22 Try.underlying9 cells9 h with ⟨hcs, _⟩ | ⟨ad, len, cap, ss, hcs, _, hl, hm, hz, _, hcell, hws⟩
  · simp at hcs
    obtain ⟨rfl, rfl, rfl⟩ := hcs
    exact ⟨fun _ => ByteArray.empty, Nat.zero_le _, fun j hj => by omega, .inl rfl, fun _ => rfl⟩
  · simp at hcs hz
    obtain ⟨rfl, rfl, rfl⟩ := hcs
    refine ⟨fun j => ss.getD j ByteArray.empty, Nat.le_trans hl hm, fun j hj => ?_, ?_, fun h => (by cases h)⟩
    · have hj' : j < ss.length := by omega
      simp only [List.getD, List.getElem?_eq_getElem hj', Option.getD_some]
      exact hws _ (List.getElem_mem hj')
    · by_cases h0 : l = 0
      · exact .inl h0
      obtain ⟨b, off, spot⟩ := ad
      have hspot : spot = none := by simpa [Addr.add] using World.cell?_spot (hcell 0 (by omega))
      subst hspot
      refine .inr ⟨b, off, rfl, Nat.zero_le _, World.block_lt_of_cell? w _ (hcell 0 (by omega)), fun j hj => ?_⟩
      rw [← add_plain]
      exact hcell j (by omega)

/-- A slice of ints that came in. -/
theorem open_nums {fuel : Nat} {a : Option Addr} {l c : Nat} {x : DataW H × List MemPlace} (h : DataW.trod enc Try.prog w 0 (fun _ => true) true fuel 23 [.slice a l c] = some x) :
    ∃ o, l ≤ maxLen ∧ IntRow w 0 a l o ∧ NilOk a l := by
  rcases open_ints Try.underlying23 Try.underlying3 cells3 h with ⟨hcs, _⟩ | ⟨ad, len, cap, zs, hcs, _, hl, hm, hz, _, hcell, hws⟩
  · simp at hcs
    obtain ⟨rfl, rfl, rfl⟩ := hcs
    exact ⟨fun _ => 0, Nat.zero_le _, .inl rfl, fun _ => rfl⟩
  · simp at hcs hz
    obtain ⟨rfl, rfl, rfl⟩ := hcs
    refine ⟨fun j => zs.getD j 0, Nat.le_trans hl hm, ?_, fun h => (by cases h)⟩
    by_cases h0 : l = 0
    · exact .inl h0
    obtain ⟨b, off, spot⟩ := ad
    have hspot : spot = none := by simpa [Addr.add] using World.cell?_spot (hcell 0 (by omega))
    subst hspot
    refine .inr ⟨b, off, rfl, Nat.zero_le _, World.block_lt_of_cell? w _ (hcell 0 (by omega)), fun j hj => ?_⟩
    rw [← add_plain]
    exact hcell j (by omega)

/-- A slice of slices of strings that came in. -/
theorem open_lists {fuel : Nat} {a : Option Addr} {l c : Nat} {x : DataW H × List MemPlace} (h : DataW.trod enc Try.prog w 0 (fun _ => true) true fuel 24 [.slice a l c] = some x) :
    ∃ n M, l ≤ maxLen ∧ (∀ j, j < l → n j ≤ maxLen) ∧ ListRow w 0 a l n M ∧ NilOk a l := by
  rcases Deep.open_slice Try.underlying24 h with ⟨hcs, _⟩ | ⟨ad, len, cap, m, q, D, Pl, hcs, _, hl, hm, hmm, _, hx⟩
  · simp at hcs
    obtain ⟨rfl, rfl, rfl⟩ := hcs
    exact ⟨fun _ => 0, fun _ _ => ByteArray.empty, Nat.zero_le _, fun j hj => by omega, .inl rfl, fun _ => rfl⟩
  · simp at hcs hmm
    obtain ⟨rfl, rfl, rfl⟩ := hcs
    subst hmm
    have each : ∀ i, i < l → ∃ q : (Option Addr × Nat × Nat) × (Nat → ByteArray), w.cell? (ad.add i) = some (.slice q.1.1 q.1.2.1 q.1.2.2) ∧ q.1.2.1 ≤ maxLen ∧ StrRow w 0 q.1.1 q.1.2.1 q.2 ∧ NilOk q.1.1 q.1.2.1 := by
      intro i hi
      obtain ⟨cs', h1, h2⟩ := hx i (by omega)
      rw [cells22, Nat.mul_one] at h1
      obtain ⟨_, hlen, hcell⟩ := World.cells?_some h1
      have hc0 := hcell 0 (by omega)
      obtain ⟨aj, lj, cj, rfl⟩ : ∃ aj lj cj, cs' = [.slice aj lj cj] := by
        rcases open_strings Try.underlying22 Try.underlying9 cells9 h2 with ⟨hcs, _⟩ | ⟨ad', len, cap', ss, hcs, _⟩
        · exact ⟨_, _, _, hcs⟩
        · exact ⟨_, _, _, hcs⟩
      obtain ⟨mm, k1, _, k2, k3⟩ := open_strs h2
      refine ⟨((aj, lj, cj), mm), ?_, k1, k2, k3⟩
      simpa [Deep.add_add] using hc0
    obtain ⟨f, hf⟩ := Deep.choose_lt each
    refine ⟨fun j => (f j).1.2.1, fun j => (f j).2, Nat.le_trans hl hm, fun j hj => (hf j hj).2.1, ?_, fun h => (by cases h)⟩
    by_cases h0 : l = 0
    · exact .inl h0
    obtain ⟨b, off, spot⟩ := ad
    have hspot : spot = none := by simpa [Addr.add] using World.cell?_spot (hf 0 (by omega)).1
    subst hspot
    refine .inr ⟨b, off, rfl, Nat.zero_le _, World.block_lt_of_cell? w _ (hf 0 (by omega)).1, fun j hj => ?_⟩
    obtain ⟨h1, _, h3, h4⟩ := hf j hj
    rw [add_plain] at h1
    exact ⟨_, _, h1, h3, h4⟩

end

set_option maxRecDepth 100000 in
theorem lifted (os : Os) (started : os.Started) (H : Type) (enc : TypeId × Value → H) :
    ReturnsInHanded {} Try.checked os 3 .any (Rows.fnSelectorMatchesIsConjunctionAndOpsFlipTheirTwinsSpec.pre6 enc Try.prog Try.f3 Rows.fnSelectorMatchesIsConjunctionAndOpsFlipTheirTwinsRow.domain false) (Rows.fnSelectorMatchesIsConjunctionAndOpsFlipTheirTwinsSpec.post enc Try.prog Try.f3 false true false false) := by
  refine returnsInHanded_of_change (C := Try.checked) own started (by kernel_rfl) Try.func3
    (ChangeSpec.witness6 (enc := enc) (C := Try.checked) false ⟨#[], #[.slice none 0 0, .slice none 0 0, .slice none 0 0, .slice none 0 0, .slice none 0 0], []⟩ 8 (by kernel_rfl) (by kernel_rfl) (by kernel_rfl) (by kernel_rfl)) ?_
  intro W base args ds gs before hval0 hW hcnd _
  have hval : ∀ (j : Nat) t v, Try.f3.params[j]? = some t → args[j]? = some v → Value.okWide Try.prog W .any base t v := hval0
  have hW' := hW
  obtain ⟨p, q, hA0, hV, rfl, hfz, hnd⟩ := hW
  have hA : DataW.TrodAll enc Try.prog W 0 (fun _ => true) true Try.f3.params.toList args.toList ds p := hA0
  rw [Try.params3] at hA hval
  obtain ⟨v0, vs0, d0, ds0, p0, q0, hargs, rfl, rfl, h0, r0⟩ := trodAll_cons hA
  obtain ⟨v1, vs1, d1, ds1, p1, q1, rfl, rfl, rfl, h1, r1⟩ := trodAll_cons r0
  obtain ⟨v2, vs2, d2, ds2, p2, q2, rfl, rfl, rfl, h2, r2⟩ := trodAll_cons r1
  obtain ⟨v3, vs3, d3, ds3, p3, q3, rfl, rfl, rfl, h3, r3⟩ := trodAll_cons r2
  obtain ⟨v4, vs4, d4, ds4, p4, q4, rfl, rfl, rfl, h4, r4⟩ := trodAll_cons r3
  obtain ⟨rfl, rfl, rfl⟩ := trodAll_nil r4
  obtain rfl : args = #[v0, v1, v2, v3, v4] := by cases args; simp_all
  obtain ⟨rfl, rfl⟩ := trodVars_none hV
  obtain ⟨a0, len0, cap0, rfl⟩ := okWide_slice Try.underlying22 (hval 0 22 v0 rfl rfl)
  obtain ⟨a1, len1, cap1, rfl⟩ := okWide_slice Try.underlying23 (hval 1 23 v1 rfl rfl)
  obtain ⟨a2, len2, cap2, rfl⟩ := okWide_slice Try.underlying24 (hval 2 24 v2 rfl rfl)
  obtain ⟨a3, len3, cap3, rfl⟩ := okWide_slice Try.underlying22 (hval 3 22 v3 rfl rfl)
  obtain ⟨a4, len4, cap4, rfl⟩ := okWide_slice Try.underlying22 (hval 4 22 v4 rfl rfl)
  have k0 := h0
  have k1 := h1
  have k2 := h2
  have k3 := h3
  have k4 := h4
  have lt0 : ∀ x ∈ p0, x.block < W.heap.size := by obtain ⟨m, hm⟩ := k0; exact DataW.trod_lt m _ _ _ hm
  have lt1 : ∀ x ∈ p1, x.block < W.heap.size := by obtain ⟨m, hm⟩ := k1; exact DataW.trod_lt m _ _ _ hm
  have lt2 : ∀ x ∈ p2, x.block < W.heap.size := by obtain ⟨m, hm⟩ := k2; exact DataW.trod_lt m _ _ _ hm
  have lt3 : ∀ x ∈ p3, x.block < W.heap.size := by obtain ⟨m, hm⟩ := k3; exact DataW.trod_lt m _ _ _ hm
  have lt4 : ∀ x ∈ p4, x.block < W.heap.size := by obtain ⟨m, hm⟩ := k4; exact DataW.trod_lt m _ _ _ hm
  obtain ⟨f0, hf0⟩ := h0
  obtain ⟨f1, hf1⟩ := h1
  obtain ⟨f2, hf2⟩ := h2
  obtain ⟨f3, hf3⟩ := h3
  obtain ⟨f4, hf4⟩ := h4
  simp only [Value.cells] at hf0 hf1 hf2 hf3 hf4
  obtain ⟨m0, l0, s0, w0, n0⟩ := open_strs hf0
  obtain ⟨o1, l1, w1, n1⟩ := open_nums hf1
  obtain ⟨n2, m2, l2, s2, w2, nn2⟩ := open_lists hf2
  obtain ⟨m3, l3, s3, w3, n3⟩ := open_strs hf3
  obtain ⟨m4, l4, s4, w4, n4⟩ := open_strs hf4
  clear hA0 hval0
  refine (walk a0 len0 cap0 m0 a1 len1 cap1 o1 a2 len2 cap2 n2 m2 a3 len3 cap3 m3 a4 len4 cap4 m4 W l0 l1 l2 l3 l4 s2 s0 s3 s4 w0 w1 w2 w3 w4 n0 n1 nn2 n3 n4).mono fun e W' ⟨he, bel⟩ => ?_
  subst he
  exact ⟨_, rfl, _, _, _, [], _, [], hW', trodAll_mk1 (shut_bool Try.underlying4 _), (trodAll_cons_mk (Below.trod laidOut (by kernel_rfl) (of_decide_eq_true (by kernel_rfl)) k0 bel lt0) (trodAll_cons_mk (Below.trod laidOut (by kernel_rfl) (of_decide_eq_true (by kernel_rfl)) k1 bel lt1) (trodAll_cons_mk (Below.trod laidOut (by kernel_rfl) (of_decide_eq_true (by kernel_rfl)) k2 bel lt2) (trodAll_cons_mk (Below.trod laidOut (by kernel_rfl) (of_decide_eq_true (by kernel_rfl)) k3 bel lt3) (trodAll_cons_mk (Below.trod laidOut (by kernel_rfl) (of_decide_eq_true (by kernel_rfl)) k4 bel lt4) trodAll_mk0))))), rfl, bel.frame _, fun h => by cases h⟩

theorem over : Rows.fnSelectorMatchesIsConjunctionAndOpsFlipTheirTwinsRow.holds Try.pinned (OpenSpec.ofChange Rows.fnSelectorMatchesIsConjunctionAndOpsFlipTheirTwinsSpec) :=
  OpenClaim.holds_of_wide 3 Try.f3 rfl rfl rfl rfl rfl rfl rfl ⟨rfl, rfl, rfl, rfl, rfl⟩ rfl rfl rfl rfl rfl (by kernel_rfl) Try.func3 (by kernel_rfl)
    (of_decide_eq_true (by kernel_rfl)) (by unfold Func.isWrapper; first | (rw [if_pos (by decide +kernel)]; kernel_rfl) | (rw [if_neg (by decide +kernel)]; exact ⟨rfl, rfl⟩))
    (fun os started H enc _ => lifted os started H enc)

end Go.Proofs.Qxb6605776a.Se
namespace Go.Proofs.Qxb6605776a

/-- THE STATEMENT -/
theorem selectorMatches_proved : Rows.FnSelectorMatchesIsConjunctionAndOpsFlipTheirTwinsSaid := Se.over

end Go.Proofs.Qxb6605776a
