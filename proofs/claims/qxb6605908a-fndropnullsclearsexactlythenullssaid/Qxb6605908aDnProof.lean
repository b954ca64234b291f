/-
  'Rows.FnDropNullsClearsExactlyTheNullsSaid': THE ROW's STEP.
-/
import Derived.Test.Qxb6605908aDnMain
import Derived.ProofKit
import Derived.OpenShut
import Derived.ShutString
import Derived.ChangeOld
import Derived.Deep.Slices
namespace Go.Proofs.Qxb6605908a.Dn
open Go.ChangeShapes Go.WideShapes Go.ChangeAt Go.RowKit
set_option linter.unusedVariables false

theorem own : ownKnob Try.prog.godebug = none := by kernel_rfl
theorem laidOut : laidOutB Try.prog = true := by kernel_rfl
theorem cells36 : Try.prog.cellsOf 36 = 16 := by kernel_rfl
theorem cells62 : Try.prog.cellsOf 62 = 4 := by kernel_rfl
theorem cells9 : Try.prog.cellsOf 9 = 1 := by kernel_rfl
theorem cells2 : Try.prog.cellsOf 2 = 1 := by kernel_rfl
theorem cells5 : Try.prog.cellsOf 5 = 1 := by kernel_rfl
theorem cells63 : Try.prog.cellsOf 63 = 1 := by kernel_rfl
theorem cells30 : Try.prog.cellsOf 30 = 1 := by kernel_rfl
theorem cells31 : Try.prog.cellsOf 31 = 1 := by kernel_rfl
theorem cells32 : Try.prog.cellsOf 32 = 1 := by kernel_rfl
theorem cells33 : Try.prog.cellsOf 33 = 1 := by kernel_rfl
theorem cells34 : Try.prog.cellsOf 34 = 1 := by kernel_rfl

section
variable {H : Type} {enc : TypeId × Value → H} {w : World} {fuel : Nat}

theorem one_cell {a : Addr} {cs : List Value} (h : w.cells? 0 a 1 = some cs) : ∃ v, cs = [v] ∧ w.cell? a = some v := by
  obtain ⟨_, hlen, hcell⟩ := World.cells?_some h
  match cs, hlen with
  | [v], _ => exact ⟨v, rfl, by simpa [Addr.add] using hcell 0 (by omega)⟩

theorem spot_of {a : Addr} {v : Value} (h : w.cell? a = some v) : ∃ b off, a = ⟨b, off, none⟩ := by
  have := World.cell?_spot h
  obtain ⟨b, off, spot⟩ := a
  simp at this
  subst this
  exact ⟨b, off, rfl⟩

theorem open_pstr {c : Value} {x : DataW H × List MemPlace} (h : DataW.trod enc Try.prog w 0 (fun _ => true) true fuel 30 [c] = some x) : ∃ p s, c = .pointer p ∧ PStr w p s := by
  rcases DataW.trod_pointer Try.underlying30 h with ⟨h0, _⟩ | ⟨a, cs', y, n, _, h0, _, hc, hy⟩
  · simp at h0; exact ⟨none, ByteArray.empty, h0, .inl rfl⟩
  · simp at h0
    rw [cells9] at hc
    obtain ⟨v, rfl, hv⟩ := one_cell hc
    obtain ⟨s, hs, _, _⟩ := DataW.trod_string Try.underlying9 hy
    simp at hs
    subst hs
    obtain ⟨b, off, rfl⟩ := spot_of hv
    exact ⟨_, s, h0, .inr ⟨b, off, rfl, hv⟩⟩

theorem open_pint {c : Value} {x : DataW H × List MemPlace} (h : DataW.trod enc Try.prog w 0 (fun _ => true) true fuel 31 [c] = some x) : ∃ p, c = .pointer p ∧ PInt w p := by
  rcases DataW.trod_pointer Try.underlying31 h with ⟨h0, _⟩ | ⟨a, cs', y, n, _, h0, _, hc, hy⟩
  · simp at h0; exact ⟨none, h0, .inl rfl⟩
  · simp at h0
    rw [cells2] at hc
    obtain ⟨v, rfl, hv⟩ := one_cell hc
    obtain ⟨s, hs, _, _⟩ := DataW.trod_int Try.underlying2 hy
    simp at hs
    subst hs
    obtain ⟨b, off, rfl⟩ := spot_of hv
    exact ⟨_, h0, .inr ⟨b, off, s, rfl, hv⟩⟩

theorem trod_float {cs : List Value} {x : DataW H × List MemPlace} (h : DataW.trod enc Try.prog w 0 (fun _ => true) true fuel 63 cs = some x) : ∃ n, cs = [.float .f64 n] := by
  cases fuel with
  | zero => simp [DataW.trod] at h
  | succ n =>
    unfold DataW.trod at h
    rw [Try.underlying63] at h
    split at h <;> simp_all

theorem open_pflt {c : Value} {x : DataW H × List MemPlace} (h : DataW.trod enc Try.prog w 0 (fun _ => true) true fuel 32 [c] = some x) : ∃ p, c = .pointer p ∧ PFlt w p := by
  rcases DataW.trod_pointer Try.underlying32 h with ⟨h0, _⟩ | ⟨a, cs', y, n, _, h0, _, hc, hy⟩
  · simp at h0; exact ⟨none, h0, .inl rfl⟩
  · simp at h0
    rw [cells63] at hc
    obtain ⟨v, rfl, hv⟩ := one_cell hc
    obtain ⟨s, hs⟩ := trod_float hy
    simp at hs
    subst hs
    obtain ⟨b, off, rfl⟩ := spot_of hv
    exact ⟨_, h0, .inr ⟨b, off, s, rfl, hv⟩⟩

theorem open_bytes {c : Value} {x : DataW H × List MemPlace} (h : DataW.trod enc Try.prog w 0 (fun _ => true) true fuel 33 [c] = some x) : ∃ a l k f, c = .slice a l k ∧ BRow w a l f := by
  rcases Deep.open_slice Try.underlying33 h with ⟨hcs, _⟩ | ⟨ad, l, c', m, n, D, Pl, hcs, _, hl, hm, hmm, _, hx⟩
  · simp at hcs
    exact ⟨none, 0, 0, fun _ => 0, hcs, fun _ => rfl, .inl rfl⟩
  · simp at hcs hmm
    subst hmm
    by_cases h0 : l = 0
    · exact ⟨_, l, _, fun _ => 0, hcs, (fun h => by cases h), .inl h0⟩
    have each : ∀ i, i < l → ∃ z : UInt8, w.cell? (ad.add i) = some (.int .u8 (z.toNat : Int)) := by
      intro i hi
      obtain ⟨cs', h1, h2⟩ := hx i (by omega)
      rw [cells5] at h1
      obtain ⟨v, rfl, hv⟩ := one_cell h1
      obtain ⟨z, hz, _, hwf⟩ := DataW.trod_int Try.underlying5 h2
      simp at hz
      subst hz
      rw [Nat.mul_one] at hv
      have hr : IntKind.u8.min ≤ z ∧ z ≤ IntKind.u8.max := by simpa [Lit.wf] using hwf
      have h1 : IntKind.u8.min = 0 := rfl
      have h2 : IntKind.u8.max = 255 := rfl
      refine ⟨UInt8.ofNat z.toNat, ?_⟩
      rw [hv]
      have : ((UInt8.ofNat z.toNat).toNat : Int) = z := by simp; omega
      rw [this]
    obtain ⟨b, off, rfl⟩ : ∃ b off, ad = ⟨b, off, none⟩ := by
      obtain ⟨z, hz⟩ := each 0 (by omega)
      have := World.cell?_spot hz
      obtain ⟨b, off, spot⟩ := ad
      simp [Addr.add] at this
      subst this
      exact ⟨b, off, rfl⟩
    have each' : ∀ i, i < l → ∃ z : UInt8, w.cell? ⟨b, off + i, none⟩ = some (.int .u8 (z.toNat : Int)) := by
      intro i hi
      obtain ⟨z, hz⟩ := each i hi
      rw [add_plain] at hz
      exact ⟨z, hz⟩
    refine ⟨_, l, _, fun i => if hi : i < l then (each' i hi).choose else 0, hcs, (fun h => by cases h), .inr ⟨b, off, rfl, ?_, ?_⟩⟩
    · obtain ⟨z, hz⟩ := each 0 (by omega)
      exact World.block_lt_of_cell? w _ hz
    · intro j hj
      have := (each' j hj).choose_spec
      simpa [hj] using this

theorem open_met {c : Value} {x : DataW H × List MemPlace} (h : DataW.trod enc Try.prog w 0 (fun _ => true) true fuel 34 [c] = some x) : ∃ p m f, c = .pointer p ∧ PMet w p m f := by
  rcases DataW.trod_pointer Try.underlying34 h with ⟨h0, _⟩ | ⟨a, cs', y, n, _, h0, _, hc, hy⟩
  · simp at h0
    exact ⟨none, ⟨ByteArray.empty, ByteArray.empty, none, none, 0, 0⟩, fun _ => 0, h0, .inl rfl⟩
  · simp at h0
    rw [cells62] at hc
    obtain ⟨_, hlen, hcell⟩ := World.cells?_some hc
    obtain ⟨xs, k, _, _, hl, hxl, hf⟩ := DataW.trod_struct Try.underlying62 hy
    match cs', hlen with
    | [c0, c1, c2, c3], _ =>
      have e0 := hcell 0 (by omega)
      have e1 := hcell 1 (by omega)
      have e2 := hcell 2 (by omega)
      have e3 := hcell 3 (by omega)
      have hx : ∀ i, i < 4 → ∃ y, xs[i]? = some y := fun i hi => ⟨_, List.getElem?_eq_getElem (by rw [hxl]; exact hi)⟩
      obtain ⟨y0, hy0⟩ := hx 0 (by omega)
      obtain ⟨y1, hy1⟩ := hx 1 (by omega)
      obtain ⟨y2, hy2⟩ := hx 2 (by omega)
      obtain ⟨y3, hy3⟩ := hx 3 (by omega)
      have f0 := (hf 0 _ rfl).trans hy0
      have f1 := (hf 1 _ rfl).trans hy1
      have f2 := (hf 2 _ rfl).trans hy2
      have f3 := (hf 3 _ rfl).trans hy3
      simp [cells9, cells31, cells33] at f0 f1 f2 f3
      obtain ⟨s0, r0, _, _⟩ := DataW.trod_string Try.underlying9 f0
      obtain ⟨s1, r1, _, _⟩ := DataW.trod_string Try.underlying9 f1
      obtain ⟨p2, r2, hp2⟩ := open_pint f2
      obtain ⟨a3, l3, k3, f, r3, hb3⟩ := open_bytes f3
      simp at r0 r1
      subst r0 r1 r2 r3
      obtain ⟨b, off, rfl⟩ : ∃ b off, a = ⟨b, off, none⟩ := by
        have := World.cell?_spot e0
        obtain ⟨b, off, spot⟩ := a
        simp [Addr.add] at this
        subst this
        exact ⟨b, off, rfl⟩
      rw [add_plain] at e0 e1 e2 e3
      exact ⟨_, ⟨s0, s1, p2, a3, l3, k3⟩, f, h0, .inr ⟨b, off, rfl, ⟨e0, e1, e2, e3⟩, hp2, hb3⟩⟩

theorem open_turn {cs : List Value} {x : DataW H × List MemPlace} (h : DataW.trod enc Try.prog w 0 (fun _ => true) true fuel 36 cs = some x) : ∃ d m xx, cs = d.cells.toList ∧ Good w d m xx := by
  obtain ⟨xs, k, _, _, hl, hxl, hf⟩ := DataW.trod_struct Try.underlying36 h
  rw [cells36] at hl
  match cs, hl with
  | [c0, c1, c2, c3, c4, c5, c6, c7, c8, c9, c10, c11, c12, c13, c14, c15], _ =>
    have hx : ∀ i, i < 16 → ∃ y, xs[i]? = some y := fun i hi => ⟨_, List.getElem?_eq_getElem (by rw [hxl]; exact hi)⟩
    obtain ⟨y0, hy0⟩ := hx 0 (by omega)
    have f0 := (hf 0 _ rfl).trans hy0
    obtain ⟨y1, hy1⟩ := hx 1 (by omega)
    have f1 := (hf 1 _ rfl).trans hy1
    obtain ⟨y2, hy2⟩ := hx 2 (by omega)
    have f2 := (hf 2 _ rfl).trans hy2
    obtain ⟨y3, hy3⟩ := hx 3 (by omega)
    have f3 := (hf 3 _ rfl).trans hy3
    obtain ⟨y4, hy4⟩ := hx 4 (by omega)
    have f4 := (hf 4 _ rfl).trans hy4
    obtain ⟨y5, hy5⟩ := hx 5 (by omega)
    have f5 := (hf 5 _ rfl).trans hy5
    obtain ⟨y6, hy6⟩ := hx 6 (by omega)
    have f6 := (hf 6 _ rfl).trans hy6
    obtain ⟨y7, hy7⟩ := hx 7 (by omega)
    have f7 := (hf 7 _ rfl).trans hy7
    obtain ⟨y8, hy8⟩ := hx 8 (by omega)
    have f8 := (hf 8 _ rfl).trans hy8
    obtain ⟨y9, hy9⟩ := hx 9 (by omega)
    have f9 := (hf 9 _ rfl).trans hy9
    obtain ⟨y10, hy10⟩ := hx 10 (by omega)
    have f10 := (hf 10 _ rfl).trans hy10
    obtain ⟨y11, hy11⟩ := hx 11 (by omega)
    have f11 := (hf 11 _ rfl).trans hy11
    obtain ⟨y12, hy12⟩ := hx 12 (by omega)
    have f12 := (hf 12 _ rfl).trans hy12
    obtain ⟨y13, hy13⟩ := hx 13 (by omega)
    have f13 := (hf 13 _ rfl).trans hy13
    obtain ⟨y14, hy14⟩ := hx 14 (by omega)
    have f14 := (hf 14 _ rfl).trans hy14
    obtain ⟨y15, hy15⟩ := hx 15 (by omega)
    have f15 := (hf 15 _ rfl).trans hy15
    simp [cells9, cells2, cells30, cells31, cells32, cells33, cells34] at f0 f1 f2 f3 f4 f5 f6 f7 f8 f9 f10 f11 f12 f13 f14 f15
    obtain ⟨s0, r0, _, _⟩ := DataW.trod_string Try.underlying9 f0
    simp at r0
    obtain ⟨s1, r1, _, _⟩ := DataW.trod_string Try.underlying9 f1
    simp at r1
    obtain ⟨s2, r2, _, _⟩ := DataW.trod_string Try.underlying9 f2
    simp at r2
    obtain ⟨s3, r3, _, _⟩ := DataW.trod_string Try.underlying9 f3
    simp at r3
    obtain ⟨s4, r4, _, _⟩ := DataW.trod_int Try.underlying2 f4
    simp at r4
    obtain ⟨s5, r5, _, _⟩ := DataW.trod_string Try.underlying9 f5
    simp at r5
    obtain ⟨s6, r6, _, _⟩ := DataW.trod_int Try.underlying2 f6
    simp at r6
    obtain ⟨s7, r7, _, _⟩ := DataW.trod_string Try.underlying9 f7
    simp at r7
    obtain ⟨p8, t8, r8, g8⟩ := open_pstr f8
    obtain ⟨p9, r9, g9⟩ := open_pint f9
    obtain ⟨p10, r10, g10⟩ := open_pint f10
    obtain ⟨p11, r11, g11⟩ := open_pflt f11
    obtain ⟨a12, l12, k12, b12, r12, g12⟩ := open_bytes f12
    obtain ⟨a13, l13, k13, b13, r13, g13⟩ := open_bytes f13
    obtain ⟨a14, l14, k14, b14, r14, g14⟩ := open_bytes f14
    obtain ⟨p15, m, fm, r15, g15⟩ := open_met f15
    subst r0 r1 r2 r3 r4 r5 r6 r7 r8 r9 r10 r11 r12 r13 r14 r15
    exact ⟨⟨s0, s1, s2, s3, s4, s5, s6, s7, p8, p9, p10, p11, a12, l12, k12, a13, l13, k13, a14, l14, k14, p15⟩, m, ⟨t8, b12, b13, b14, fm⟩, rfl, ⟨g8, g9, g10, g11, g12, g13, g14, g15⟩⟩

end

set_option maxRecDepth 100000 in
theorem lifted (os : Os) (started : os.Started) (H : Type) (enc : TypeId × Value → H) :
    ReturnsInHanded {} Try.checked os 4 .any (Rows.fnDropNullsClearsExactlyTheNullsSpec.pre6 enc Try.prog Try.f4 Rows.fnDropNullsClearsExactlyTheNullsRow.domain false) (Rows.fnDropNullsClearsExactlyTheNullsSpec.post enc Try.prog Try.f4 false true false false) := by
  refine returnsInHanded_of_change (C := Try.checked) own started (by kernel_rfl) Try.func4
    (ChangeSpec.witness6 (enc := enc) (C := Try.checked) false ⟨#[], #[.agg #[.string ⟨#[]⟩, .string ⟨#[]⟩, .string ⟨#[]⟩, .string ⟨#[]⟩, .int .i64 0, .string ⟨#[]⟩, .int .i64 0, .string ⟨#[]⟩, .pointer none, .pointer none, .pointer none, .pointer none, .slice none 0 0, .slice none 0 0, .slice none 0 0, .pointer none]], []⟩ 8 (by kernel_rfl) (by kernel_rfl) (by kernel_rfl) (by kernel_rfl)) ?_
  intro W base args ds gs before hval0 hW hcnd _
  have hval : ∀ (j : Nat) t v, Try.f4.params[j]? = some t → args[j]? = some v → Value.okWide Try.prog W .any base t v := hval0
  have hW' := hW
  obtain ⟨p, q, hA0, hV, rfl, hfz, hnd⟩ := hW
  have hA : DataW.TrodAll enc Try.prog W 0 (fun _ => true) true Try.f4.params.toList args.toList ds p := hA0
  rw [Try.params4] at hA hval
  obtain ⟨v0, vs0, d0, ds0, p0, q0, hargs, rfl, rfl, h0, r0⟩ := trodAll_cons hA
  obtain ⟨rfl, rfl, rfl⟩ := trodAll_nil r0
  obtain rfl : args = #[v0] := by cases args; simp_all
  obtain ⟨rfl, rfl⟩ := trodVars_none hV
  obtain ⟨cs, rfl, hcs⟩ := okWide_struct Try.underlying36 (hval 0 36 v0 rfl rfl)
  have k0 := h0
  have lt0 : ∀ x ∈ p0, x.block < W.heap.size := by obtain ⟨m, hm⟩ := k0; exact DataW.trod_lt m _ _ _ hm
  obtain ⟨fuel0, hf0⟩ := h0
  simp only [Value.cells] at hf0
  obtain ⟨d, m, xx, hd, hg⟩ := open_turn hf0
  obtain rfl : cs = d.cells := by cases cs; simp_all
  clear hA0 hval0
  refine (walk d m xx W hg).mono fun e W' ⟨he, bel⟩ => ?_
  subst he
  exact ⟨_, rfl, _, _, _, [], _, [], hW', trodAll_mk1 (shut_bool Try.underlying4 _), (trodAll_cons_mk (Below.trod laidOut (by kernel_rfl) (of_decide_eq_true (by kernel_rfl)) k0 bel lt0) trodAll_mk0), rfl, bel.frame _, fun h => by cases h⟩

theorem over : Rows.fnDropNullsClearsExactlyTheNullsRow.holds Try.pinned (OpenSpec.ofChange Rows.fnDropNullsClearsExactlyTheNullsSpec) :=
  OpenClaim.holds_of_wide 4 Try.f4 rfl rfl rfl rfl rfl rfl rfl ⟨rfl, rfl, rfl, rfl, rfl⟩ rfl rfl rfl rfl rfl (by kernel_rfl) Try.func4 (by kernel_rfl)
    (of_decide_eq_true (by kernel_rfl)) (by unfold Func.isWrapper; first | (rw [if_pos (by decide +kernel)]; kernel_rfl) | (rw [if_neg (by decide +kernel)]; exact ⟨rfl, rfl⟩))
    (fun os started H enc _ => lifted os started H enc)

end Go.Proofs.Qxb6605908a.Dn
namespace Go.Proofs.Qxb6605908a

/-- THE STATEMENT -/
theorem dropNulls_proved : Rows.FnDropNullsClearsExactlyTheNullsSaid := Dn.over

end Go.Proofs.Qxb6605908a
