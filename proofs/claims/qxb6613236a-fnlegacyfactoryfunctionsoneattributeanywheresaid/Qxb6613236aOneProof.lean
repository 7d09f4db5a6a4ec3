/-
  'Rows.FnLegacyFactoryFunctionsOneAttributeAnywhereSaid', PROVED.
-/
import Derived.Test.Qxb6613236aOneYes
namespace Go.Proofs.Qxb6613236a.fnOne
open Go.ChangeShapes Go.WideShapes Go.ChangeAt Go.RowKit Go.Joins

theorem one_walk (a : Option Addr) (len cap : Nat) (sn sv : ByteArray) (pos : Int) (N V : Nat → ByteArray) (w : World) (hl : len ≤ 9223372036854775807) (hcap : len ≤ cap) (hcm : cap ≤ 9223372036854775807) (hsn : sn.size ≤ 9223372036854775807) (hsv : sv.size ≤ 9223372036854775807) (hs : Specs w a len N V)
    (hz : ∀ i, i < len → (N i).size ≤ 9223372036854775807 ∧ (V i).size ≤ 9223372036854775807) :
    Calls Try.prog 4 #[.slice a len cap, .agg #[.string sn, .string sv], .int .i64 pos] w fun e w' => e = .returned (.bool true) ∧ Below w.heap.size w w' := by
  by_cases h : pos < 0 ∨ 0 ≤ pos ∧ (len : Int) < pos
  · exact one_out a len cap sn sv pos N V w hl hsn hsv hs hz h
  · obtain ⟨p, rfl⟩ : ∃ p : Nat, pos = p := ⟨pos.toNat, by omega⟩
    cases hL : isL sn with
    | true => exact one_in_yes a len cap sn sv p N V w hl hcap hcm hsn hsv hs hz (by omega) hL
    | false => exact one_in_no a len cap sn sv p N V w hl hcap hcm hsn hsv hs hz (by omega) hL

set_option maxRecDepth 100000 in
theorem lifted (os : Os) (started : os.Started) (H : Type) (enc : TypeId × Value → H) :
    ReturnsInHanded {} Try.checked os 4 .any (Rows.fnLegacyFactoryFunctionsOneAttributeAnywhereSpec.pre6 enc Try.prog Try.f4 Rows.fnLegacyFactoryFunctionsOneAttributeAnywhereRow.domain false) (Rows.fnLegacyFactoryFunctionsOneAttributeAnywhereSpec.post enc Try.prog Try.f4 false true false false) := by
  refine returnsInHanded_of_change (C := Try.checked) Try.own started (by kernel_rfl) Try.func4
    (ChangeSpec.witness6 (enc := enc) (C := Try.checked) false ⟨#[], #[.slice none 0 0, .agg #[.string ByteArray.empty, .string ByteArray.empty], .int .i64 0], []⟩ 8 (by kernel_rfl) (by kernel_rfl) (by kernel_rfl) (by kernel_rfl)) ?_
  intro W base args ds gs before hval0 hW hcnd _
  have hval : ∀ (j : Nat) t v, Try.f4.params[j]? = some t → args[j]? = some v → Value.okWide Try.prog W .any base t v := hval0
  have hW' := hW
  obtain ⟨p, q, hA0, hV, rfl, hfz, hnd⟩ := hW
  have hA : DataW.TrodAll enc Try.prog W 0 (fun _ => true) true Try.f4.params.toList args.toList ds p := hA0
  rw [Try.params4] at hA hval
  obtain ⟨v0, vs0, d0, ds0, p0, q0, hargs, rfl, rfl, h0, r0⟩ := trodAll_cons hA
  obtain ⟨v1, vs1, d1, ds1, p1, q1, rfl, rfl, rfl, h1, r1⟩ := trodAll_cons r0
  obtain ⟨v2, vs2, d2, ds2, p2, q2, rfl, rfl, rfl, h2, r2⟩ := trodAll_cons r1
  obtain ⟨rfl, rfl, rfl⟩ := trodAll_nil r2
  obtain rfl : args = #[v0, v1, v2] := by cases args; simp_all
  obtain ⟨rfl, rfl⟩ := trodVars_none hV
  obtain ⟨a0, len0, cap0, rfl⟩ := okWide_slice Try.underlying22 (hval 0 22 v0 rfl rfl)
  have k0 := h0
  have lt0 : ∀ x ∈ p0, x.block < W.heap.size := by obtain ⟨m, hm⟩ := k0; exact DataW.trod_lt m _ _ _ hm
  have k1 := h1
  have lt1 : ∀ x ∈ p1, x.block < W.heap.size := by obtain ⟨m, hm⟩ := k1; exact DataW.trod_lt m _ _ _ hm
  obtain ⟨N0, V0, l0, lc0, lm0, s0, z0, _⟩ := open_specs h0
  obtain ⟨c0, c1, y0, y1, m, rfl, _, _, t0, t1⟩ := open_agg2 Try.underlying38 (by kernel_rfl) Try.cells38 (hval 1 38 v1 rfl rfl) h1
  obtain ⟨sn, e0, _, zn⟩ := DataW.trod_string Try.underlying9 t0
  obtain ⟨sv, e1, _, zv⟩ := DataW.trod_string Try.underlying9 t1
  simp only [List.cons.injEq, and_true] at e0 e1
  subst e0 e1
  obtain ⟨a2, rfl, rfl, rfl, w2⟩ := open_int Try.underlying3 (hval 2 3 v2 rfl rfl) h2
  clear hA0 hval0
  refine (one_walk a0 len0 cap0 sn sv a2 N0 V0 W l0 lc0 lm0 zn zv s0 z0).mono fun e W' ⟨he, bel⟩ => ?_
  subst he
  exact ⟨_, rfl, _, _, _, [], _, [], hW', trodAll_mk1 (shut_bool Try.underlying4 _), (trodAll_cons_mk (Below.trod Try.laidOut (by kernel_rfl) (of_decide_eq_true (by kernel_rfl)) k0 bel lt0) (trodAll_cons_mk (Below.trod Try.laidOut (by kernel_rfl) (of_decide_eq_true (by kernel_rfl)) k1 bel lt1) (trodAll_cons_mk (shut_int Try.underlying3 w2) trodAll_mk0))), rfl, bel.frame _, fun h => by cases h⟩

theorem over : Rows.fnLegacyFactoryFunctionsOneAttributeAnywhereRow.holds Try.pinned (OpenSpec.ofChange Rows.fnLegacyFactoryFunctionsOneAttributeAnywhereSpec) :=
  OpenClaim.holds_of_wide 4 Try.f4 rfl rfl rfl rfl rfl rfl rfl ⟨rfl, rfl, rfl, rfl, rfl⟩ rfl rfl rfl rfl rfl (by kernel_rfl) Try.func4 (by kernel_rfl)
    (of_decide_eq_true (by kernel_rfl)) (by unfold Func.isWrapper; first | (rw [if_pos (by decide +kernel)]; kernel_rfl) | (rw [if_neg (by decide +kernel)]; exact ⟨rfl, rfl⟩))
    (fun os started H enc _ => lifted os started H enc)

/-- THE STATEMENT -/
theorem proved : Rows.FnLegacyFactoryFunctionsOneAttributeAnywhereSaid := over
end Go.Proofs.Qxb6613236a.fnOne
