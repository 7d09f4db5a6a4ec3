/-
  WALKS: printable, ZZprintable, and FnPrintableIsScalarsBarControls range by range.
-/
import Derived.Test.Qxb6613300aRows
import Derived.WalkKit
import Derived.ProofKit
import Derived.WalkSpells
namespace Go.Proofs.Qxb6613300a
open Go.ChangeShapes Go.WideShapes Go.ChangeAt Go.RowKit

theorem ret_bool {a b : Bool} (h : a = b) : Ending.returned (.bool a) = .returned (.bool b) := by rw [h]

/-- What printable says. -/
def prB (a : Int) : Bool := decide (a = 9 ∨ a = 10 ∨ a = 13 ∨ (32 ≤ a ∧ a ≤ 126) ∨ a = 133 ∨ (160 ≤ a ∧ a ≤ 55295) ∨ (57344 ≤ a ∧ a ≤ 65533) ∨ (65536 ≤ a ∧ a ≤ 1114111))

set_option maxHeartbeats 1000000 in
theorem pr_any (a : Int) (w : World) : Calls Try.prog 5 #[.int .i32 a] w fun e w' => e = .returned (.bool (prB a)) ∧ w' = w := by
  go_enter Try.func5, Try.ntmps5
  go_wp2
  all_goals
    go_ret
    exact ⟨ret_bool (by unfold prB; first | (symm; apply decide_eq_true; omega) | (rw [Bool.eq_iff_iff]; simp only [Bool.or_eq_true, decide_eq_true_eq, beq_iff_eq]; omega)), rfl⟩

set_option maxHeartbeats 1000000 in
theorem prz_any (a : Int) (w : World) : Calls Try.prog 4 #[.int .i32 a] w fun e w' => e = .returned (.bool (prB a)) ∧ w' = w := by
  go_enter Try.func4, Try.ntmps4
  go_wp2_with (go_at_call 5; refine (pr_any _ _).mono ?_; rintro e w' ⟨rfl, rfl⟩)
  go_ret
  exact ⟨rfl, rfl⟩


theorem prz_yes (a : Int) (w : World) (h : prB a = true) : Calls Try.prog 4 #[.int .i32 a] w fun e w' => e = .returned (.bool true) ∧ w' = w := by
  have := prz_any a w
  rwa [h] at this
theorem prz_no (a : Int) (w : World) (h : prB a = false) : Calls Try.prog 4 #[.int .i32 a] w fun e w' => e = .returned (.bool false) ∧ w' = w := by
  have := prz_any a w
  rwa [h] at this

theorem and1023 (a : Int) (h1 : 0 ≤ a) (h2 : a < 2147483648) : bits .and .i32 a 1023 = a % 1024 := by
  obtain ⟨A, rfl⟩ := Int.eq_ofNat_of_zero_le h1
  have hx : A &&& 1023 = A % 1024 := Nat.and_two_pow_sub_one_eq_mod A 10
  show IntKind.i32.wrap ((BitVec.ofInt 32 ((A : Nat) : Int) &&& BitVec.ofInt 32 ((1023 : Nat) : Int)).toNat : Int) = _
  rw [BitVec.toNat_and, ofInt_u32 A (by omega), ofInt_u32 1023 (by omega), hx, IntKind.wrap_i32]
  omega

set_option maxHeartbeats 4000000 in
theorem walk_high (a0 : Int) (w : World) (h1 : 65536 ≤ a0) (h2 : a0 ≤ 1114111) :
    Calls Try.prog 3 #[.int .i32 a0] w fun e w' => e = .returned (.bool true) ∧ Grown w w' := by
  have hy := prz_yes a0 w (by unfold prB; apply decide_eq_true; omega)
  have hn1 := prz_no (55296 + (a0 - 65536) / 1024) w (by unfold prB; apply decide_eq_false; omega)
  have hn2 := prz_no (56320 + (a0 - 65536) % 1024) w (by unfold prB; apply decide_eq_false; omega)
  have he := and1023 (a0 - 65536) (by omega) (by omega)
  have e1 : (a0 == 65534) = false := by simp; omega
  have e2 : (a0 == 65535) = false := by simp; omega
  go_enter Try.func3, Try.ntmps3
  go_wp2_with fail
  refine hy.mono ?_
  rintro e w1 ⟨rfl, rfl⟩
  clear hy
  go_wp2_with fail
  refine hn1.mono ?_
  rintro e w2 ⟨rfl, rfl⟩
  clear hn1
  go_wp2_with fail
  refine hn2.mono ?_
  rintro e w3 ⟨rfl, rfl⟩
  clear hn2
  go_wp2_with fail
  go_ret
  exact ⟨rfl, Grown.refl _⟩

set_option maxHeartbeats 8000000 in
theorem walk_low_no (a0 : Int) (w : World) (h : a0 < 0 ∨ (0 ≤ a0 ∧ a0 ≤ 8) ∨ (11 ≤ a0 ∧ a0 ≤ 12) ∨ (14 ≤ a0 ∧ a0 ≤ 31) ∨ (127 ≤ a0 ∧ a0 ≤ 132) ∨ (134 ≤ a0 ∧ a0 ≤ 159) ∨ (55296 ≤ a0 ∧ a0 ≤ 57343) ∨ a0 = 65534 ∨ a0 = 65535 ∨ 1114112 ≤ a0) :
    Calls Try.prog 3 #[.int .i32 a0] w fun e w' => e = .returned (.bool true) ∧ Grown w w' := by
  have hy := prz_no a0 w (by unfold prB; apply decide_eq_false; omega)
  have e3 : (a0 == 9) = false := by simp; omega
  have e4 : (a0 == 10) = false := by simp; omega
  have e5 : (a0 == 13) = false := by simp; omega
  have e6 : (a0 == 133) = false := by simp; omega
  rcases h with h | ⟨h, h'⟩ | ⟨h, h'⟩ | ⟨h, h'⟩ | ⟨h, h'⟩ | ⟨h, h'⟩ | ⟨h, h'⟩ | rfl | rfl | h
  all_goals
    go_enter Try.func3, Try.ntmps3
    go_wp2_with fail
    refine hy.mono ?_
    rintro e w1 ⟨rfl, rfl⟩
    clear hy
    go_wp2_with fail
    go_ret
    exact ⟨rfl, Grown.refl _⟩

set_option maxHeartbeats 8000000 in
theorem walk_low_yes (a0 : Int) (w : World) (h : a0 = 9 ∨ a0 = 10 ∨ a0 = 13 ∨ (32 ≤ a0 ∧ a0 ≤ 126) ∨ a0 = 133 ∨ (160 ≤ a0 ∧ a0 ≤ 55295) ∨ (57344 ≤ a0 ∧ a0 ≤ 65533)) :
    Calls Try.prog 3 #[.int .i32 a0] w fun e w' => e = .returned (.bool true) ∧ Grown w w' := by
  have hy := prz_yes a0 w (by unfold prB; apply decide_eq_true; omega)
  have e1 : (a0 == 65534) = false := by simp; omega
  have e2 : (a0 == 65535) = false := by simp; omega
  rcases h with rfl | rfl | rfl | ⟨h, h'⟩ | rfl | ⟨h, h'⟩ | ⟨h, h'⟩
  all_goals
    go_enter Try.func3, Try.ntmps3
    go_wp2_with fail
    refine hy.mono ?_
    rintro e w1 ⟨rfl, rfl⟩
    clear hy
    go_wp2_with fail
    go_ret
    exact ⟨rfl, Grown.refl _⟩

theorem walk_any (a0 : Int) (w : World) : Calls Try.prog 3 #[.int .i32 a0] w fun e w' => e = .returned (.bool true) ∧ Grown w w' := by
  by_cases h1 : 65536 ≤ a0 ∧ a0 ≤ 1114111
  · exact walk_high a0 w h1.1 h1.2
  · by_cases h2 : a0 = 9 ∨ a0 = 10 ∨ a0 = 13 ∨ (32 ≤ a0 ∧ a0 ≤ 126) ∨ a0 = 133 ∨ (160 ≤ a0 ∧ a0 ≤ 55295) ∨ (57344 ≤ a0 ∧ a0 ≤ 65533)
    · exact walk_low_yes a0 w h2
    · exact walk_low_no a0 w (by omega)
end Go.Proofs.Qxb6613300a
