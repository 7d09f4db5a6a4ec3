import Derived.Test.Qxb6613397aRows
import Derived.WalkKit
import Derived.BigCall
import Derived.BigQuiet
import Derived.Below
namespace Go.Proofs.Qxb6613397a
open Go.RowKit

/-- r is how the first n numbers of x and y compare, the first difference deciding. -/
def CmpIs (x y : Nat → Int) (n : Nat) (r : Int) : Prop :=
  (∃ i, i < n ∧ (∀ j, j < i → x j = y j) ∧ x i < y i ∧ r = -1) ∨ (∃ i, i < n ∧ (∀ j, j < i → x j = y j) ∧ y i < x i ∧ r = 1) ∨ ((∀ j, j < n → x j = y j) ∧ r = 0)

set_option maxHeartbeats 2000000 in
set_option maxRecDepth 100000 in
theorem compareBytes (g o c g' o' c' n : Nat) (x y : Nat → Int) (w : World) (hn : n ≤ 1048576)
    (hx : ∀ j, j < n → w.cell? ⟨g, o + j, none⟩ = some (.int .u8 (x j))) (hy : ∀ j, j < n → w.cell? ⟨g', o' + j, none⟩ = some (.int .u8 (y j))) :
    Calls Try.prog 10 #[.slice (some ⟨g, o, none⟩) n c, .slice (some ⟨g', o', none⟩) n c'] w fun e w' => ∃ r, e = .returned (.int .i64 r) ∧ CmpIs x y n r ∧ Below w.heap.size w w' := by
  go_enter Try.func10, Try.ntmps10
  go_wp2
  go_loopw [6] (fun i wr => ∃ (k q : Nat), k ≤ n ∧ i = .int .i64 k ∧ wr = w.drewN q ∧ Hid (∀ j, j < k → x j = y j)) (fun i _ => n - (intOf i).toNat)
  case atStart => exact ⟨0, 0, Nat.zero_le _, rfl, rfl, fun j hj => absurd hj (by omega)⟩
  case round =>
    obtain ⟨k, q, hk, rfl, rfl, HP⟩ := hrel
    by_cases hlt : k < n
    · have c1 := hx k hlt
      have c2 := hy k hlt
      have HX : Hid (k < n) := hlt
      rcases Int.lt_trichotomy (x k) (y k) with h | h | h
      · have HC : CmpIs x y n (-1) := .inl ⟨k, hlt, HP.out, h, rfl⟩
        clear hx hy HP
        go_wp2
        go_quiet (fail)
        go_wp2
        go_ret
        exact ⟨_, rfl, HC, ⟨rfl, rfl, rfl, Nat.le_refl _, fun _ _ => rfl⟩⟩
      · have HP' : Hid (∀ j, j < k + 1 → x j = y j) := fun j hj => by
          rcases Nat.lt_or_ge j k with hj' | hj'
          · exact HP.out j hj'
          · obtain rfl : j = k := by omega
            exact h
        clear hx hy HP
        have i1 : ¬ x k < y k := by omega
        have i2 : ¬ y k < x k := by omega
        clear h
        go_wp2
        go_quiet (fail)
        go_wp2
        go_quiet (fail)
        go_wp2
        go_roundw
        case rel => exact ⟨k + 1, _, by omega, by go_num, rfl, HP'⟩
        case measure => simp [intOf]; omega
      · have HC : CmpIs x y n 1 := .inr (.inl ⟨k, hlt, HP.out, h, rfl⟩)
        clear hx hy HP
        have i1 : ¬ x k < y k := by omega
        go_wp2
        go_quiet (fail)
        go_wp2
        go_quiet (fail)
        go_wp2
        go_ret
        exact ⟨_, rfl, HC, ⟨rfl, rfl, rfl, Nat.le_refl _, fun _ _ => rfl⟩⟩
    · obtain rfl : k = n := by omega
      have HC : CmpIs x y k 0 := .inr (.inr ⟨HP.out, rfl⟩)
      go_wp2
      go_ret
      exact ⟨_, rfl, HC, ⟨rfl, rfl, rfl, Nat.le_refl _, fun _ _ => rfl⟩⟩

/-- How two keys compare: the first words first. -/
def keyCmp (h1 l1 h2 l2 : Int) : Int := if h1 < h2 then -1 else if h2 < h1 then 1 else if l1 < l2 then -1 else if l2 < l1 then 1 else 0

set_option maxHeartbeats 2000000 in
set_option maxRecDepth 100000 in
theorem compareKeys (h1 l1 h2 l2 : Int) (w : World) :
    Calls Try.prog 11 #[.int .u64 h1, .int .u64 l1, .int .u64 h2, .int .u64 l2] w fun e w' => e = .returned (.int .i64 (keyCmp h1 l1 h2 l2)) ∧ w' = w := by
  rcases Int.lt_trichotomy h1 h2 with h | h | h
  · have e : keyCmp h1 l1 h2 l2 = -1 := by simp [keyCmp, h]
    have n1 : h1 ≠ h2 := by omega
    rw [e]; clear e
    go_enter Try.func11, Try.ntmps11
    go_wp2
    go_ret
    exact ⟨rfl, rfl⟩
  · subst h
    rcases Int.lt_trichotomy l1 l2 with k | k | k
    · have e : keyCmp h1 l1 h1 l2 = -1 := by simp [keyCmp, k]
      rw [e]; clear e
      go_enter Try.func11, Try.ntmps11
      go_wp2
      go_ret
      exact ⟨rfl, rfl⟩
    · subst k
      have e : keyCmp h1 l1 h1 l1 = 0 := by simp [keyCmp]
      rw [e]; clear e
      go_enter Try.func11, Try.ntmps11
      go_wp2
      go_ret
      exact ⟨rfl, rfl⟩
    · have i1 : ¬ l1 < l2 := by omega
      have e : keyCmp h1 l1 h1 l2 = 1 := by simp [keyCmp, k, i1]
      rw [e]; clear e
      go_enter Try.func11, Try.ntmps11
      go_wp2
      go_ret
      exact ⟨rfl, rfl⟩
  · have i1 : ¬ h1 < h2 := by omega
    have n1 : h1 ≠ h2 := by omega
    have e : keyCmp h1 l1 h2 l2 = 1 := by simp [keyCmp, h, i1]
    rw [e]; clear e
    go_enter Try.func11, Try.ntmps11
    go_wp2
    go_ret
    exact ⟨rfl, rfl⟩
end Go.Proofs.Qxb6613397a
