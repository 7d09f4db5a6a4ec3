import Derived.Test.Qxb6613397aRows
import Derived.WalkKit
import Derived.ProofKit
import Derived.OpenShut
import Derived.ShutString
import Derived.ChangeOld
import Derived.Below
import Derived.Test.Qxb6613397aKeys
namespace Go.Proofs.Qxb6613397a.fnAppendKeyBytesOrderAsKeys
open Go.ChangeShapes Go.WideShapes Go.ChangeAt Go.RowKit
open Go.ChangeMaps (open_string shut_string)
set_option linter.unusedVariables false      -- a walk need not use every 'w<i>' (that an integer argument fits its kind)

theorem own : ownKnob Try.prog.godebug = none := by kernel_rfl

/-! ### THE WALK -/
set_option maxHeartbeats 4000000 in
set_option maxRecDepth 100000 in
theorem walkN (h1 l1 h2 l2 : Nat) (a1 : h1 < 18446744073709551616) (a2 : l1 < 18446744073709551616) (a3 : h2 < 18446744073709551616) (a4 : l2 < 18446744073709551616) (w : World) :
    Calls Try.prog 4 #[.int .u64 h1, .int .u64 l1, .int .u64 h2, .int .u64 l2] w fun e w' => e = .returned (.bool true) ∧ Below w.heap.size w w' := by
  go_enter Try.func4, Try.ntmps4
  go_wp2_with fail
  refine (zzAppendKey 0 h1 l1 a1 a2 _ _ w (nilRow w) (by omega)).mono ?_
  rintro e w1 ⟨v1, rfl, ho1, hb1⟩
  obtain ⟨g1, c1, rfl, n1, k1⟩ := key_open ho1
  clear ho1
  go_wp2_with fail
  refine (zzAppendKey 0 h2 l2 a3 a4 _ _ w1 (nilRow w1) (by omega)).mono ?_
  rintro e w2 ⟨v2, rfl, ho2, hb2⟩
  obtain ⟨g2, c2, rfl, n2, k2⟩ := key_open ho2
  clear ho2
  replace k1 := k1.kept hb2
  replace hb2 := hb1.trans (hb2.mono hb1.size)
  clear hb1
  go_wp2_with fail
  refine (decode_at g1 0 16 c1 h1 l1 a1 a2 w2 (Nat.le_refl _) n1 k1).mono ?_
  rintro e w3 ⟨rfl, hb3⟩
  replace k1 := k1.kept hb3
  replace k2 := k2.kept hb3
  replace hb3 := hb2.trans (hb3.mono hb2.size)
  clear hb2
  go_wp2_with fail
  refine (decode_at g2 0 16 c2 h2 l2 a3 a4 w3 (Nat.le_refl _) n2 k2).mono ?_
  rintro e w4 ⟨rfl, hb4⟩
  replace k1 := k1.kept hb4
  replace k2 := k2.kept hb4
  replace hb4 := hb3.trans (hb4.mono hb3.size)
  clear hb3
  go_wp2_with fail
  refine (compareBytes g1 0 c1 g2 0 c2 16 (keyByte h1 l1) (keyByte h2 l2) w4 (by omega) k1 k2).mono ?_
  rintro e w5 ⟨r, rfl, hr, hb5⟩
  replace hb5 := hb4.trans (hb5.mono hb4.size)
  obtain rfl := cmp_key h1 l1 h2 l2 a1 a2 a3 a4 r hr
  clear hr hb4 k1 k2
  go_wp2_with fail
  refine (compareKeys h1 l1 h2 l2 w5).mono ?_
  rintro e w6 ⟨rfl, rfl⟩
  go_wp2
  go_ret
  exact ⟨rfl, hb5⟩

theorem walk (a0 : Int) (a1 : Int) (a2 : Int) (a3 : Int) (w0 : (Lit.int .u64 a0).wf = true) (w1 : (Lit.int .u64 a1).wf = true) (w2 : (Lit.int .u64 a2).wf = true) (w3 : (Lit.int .u64 a3).wf = true) (w : World) :
    Calls Try.prog 4 #[.int .u64 a0, .int .u64 a1, .int .u64 a2, .int .u64 a3] w fun e w' => e = .returned (.bool true) ∧ Below w.heap.size w w' := by
  obtain ⟨n0, rfl, b0⟩ := nat_of w0
  obtain ⟨n1, rfl, b1⟩ := nat_of w1
  obtain ⟨n2, rfl, b2⟩ := nat_of w2
  obtain ⟨n3, rfl, b3⟩ := nat_of w3
  exact walkN n0 n1 n2 n3 b0 b1 b2 b3 w

/-! ### THE ROW's STEP: WRITTEN OUT: LEAVE IT -/
set_option maxRecDepth 100000 in
theorem lifted (os : Os) (started : os.Started) (H : Type) (enc : TypeId × Value → H) :
    ReturnsInHanded {} Try.checked os 4 .any (Rows.fnAppendKeyBytesOrderAsKeysSpec.pre6 enc Try.prog Try.f4 Rows.fnAppendKeyBytesOrderAsKeysRow.domain false) (Rows.fnAppendKeyBytesOrderAsKeysSpec.post enc Try.prog Try.f4 false true false false) := by
  refine returnsInHanded_of_change (C := Try.checked) own started (by kernel_rfl) Try.func4
    (ChangeSpec.witness6 (enc := enc) (C := Try.checked) false ⟨#[], #[.int .u64 0, .int .u64 0, .int .u64 0, .int .u64 0], []⟩ 8 (by kernel_rfl) (by kernel_rfl) (by kernel_rfl) (by kernel_rfl)) ?_
  intro W base args ds gs before hval0 hW hcnd _
  have hval : ∀ (j : Nat) t v, Try.f4.params[j]? = some t → args[j]? = some v → Value.okWide Try.prog W .any base t v := hval0
  have hW' := hW
  obtain ⟨p, q, hA0, hV, rfl, hfz, hnd⟩ := hW
  have hA : DataW.TrodAll enc Try.prog W 0 (fun _ => true) true Try.f4.params.toList args.toList ds p := hA0
  rw [Try.params4] at hA hval
  obtain ⟨v0, vs0, d0, ds0, p0, q0, hargs, rfl, rfl, h0, r0⟩ := trodAll_cons hA
  obtain ⟨v1, vs1, d1, ds1, p1, q1, rfl, rfl, rfl, h1, r1⟩ := trodAll_cons r0
  obtain ⟨v2, vs2, d2, ds2, p2, q2, rfl, rfl, rfl, h2, r2⟩ := trodAll_cons r1
  obtain ⟨v3, vs3, d3, ds3, p3, q3, rfl, rfl, rfl, h3, r3⟩ := trodAll_cons r2
  obtain ⟨rfl, rfl, rfl⟩ := trodAll_nil r3
  obtain rfl : args = #[v0, v1, v2, v3] := by cases args; simp_all
  obtain ⟨rfl, rfl⟩ := trodVars_none hV
  obtain ⟨a0, rfl, rfl, rfl, w0⟩ := open_int Try.underlying23 (hval 0 23 v0 rfl rfl) h0
  obtain ⟨a1, rfl, rfl, rfl, w1⟩ := open_int Try.underlying23 (hval 1 23 v1 rfl rfl) h1
  obtain ⟨a2, rfl, rfl, rfl, w2⟩ := open_int Try.underlying23 (hval 2 23 v2 rfl rfl) h2
  obtain ⟨a3, rfl, rfl, rfl, w3⟩ := open_int Try.underlying23 (hval 3 23 v3 rfl rfl) h3
  clear hA0 hval0
  simp only [List.append_nil] at hW'
  refine (walk a0 a1 a2 a3 w0 w1 w2 w3 W).mono fun e W' ⟨he, bel⟩ => ?_
  subst he
  exact ⟨_, rfl, _, _, _, [], _, [], hW', trodAll_mk1 (shut_bool Try.underlying4 _), (trodAll_cons_mk (shut_int Try.underlying23 w0) (trodAll_cons_mk (shut_int Try.underlying23 w1) (trodAll_cons_mk (shut_int Try.underlying23 w2) (trodAll_cons_mk (shut_int Try.underlying23 w3) trodAll_mk0)))), rfl, bel.frame _, fun h => by cases h⟩

theorem over : Rows.fnAppendKeyBytesOrderAsKeysRow.holds Try.pinned (OpenSpec.ofChange Rows.fnAppendKeyBytesOrderAsKeysSpec) :=
  OpenClaim.holds_of_wide 4 Try.f4 rfl rfl rfl rfl rfl rfl rfl ⟨rfl, rfl, rfl, rfl, rfl⟩ rfl rfl rfl rfl rfl (by kernel_rfl) Try.func4 (by kernel_rfl)
    (of_decide_eq_true (by kernel_rfl)) (by unfold Func.isWrapper; first | (rw [if_pos (by decide +kernel)]; kernel_rfl) | (rw [if_neg (by decide +kernel)]; exact ⟨rfl, rfl⟩))
    (fun os started H enc _ => lifted os started H enc)

/-- ████ THE STATEMENT ████ -/
theorem proved : Rows.FnAppendKeyBytesOrderAsKeysSaid :=
  over
end Go.Proofs.Qxb6613397a.fnAppendKeyBytesOrderAsKeys
