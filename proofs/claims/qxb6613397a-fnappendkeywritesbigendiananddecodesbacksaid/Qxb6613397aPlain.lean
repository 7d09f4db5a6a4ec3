import Derived.Lib.EndianMore
import Derived.Lib.VarintMem
import Derived.Test.Qxb6613397aCompare
namespace Go.Proofs.Qxb6613397a

/-- Byte number j of the 8 bytes of v, the greatest first. -/
def byteAt (v j : Nat) : Nat := v / 256 ^ (7 - j) % 256

/-- Byte number j of the 16 bytes of the key (hi, lo). -/
def keyByte (hi lo j : Nat) : Int := if j < 8 then (byteAt hi j : Int) else (byteAt lo (j - 8) : Int)

/-- What AppendUint64 writes, byte by byte. -/
theorem bytes_at (v j : Nat) (hj : j < 8) : (Lib.byteCells (Lib.beBytes 8 v))[j]? = some (.int .u8 (byteAt v j)) := by
  have h : Lib.byteCells (Lib.beBytes 8 v) = [Value.int .u8 (byteAt v 0), Value.int .u8 (byteAt v 1), Value.int .u8 (byteAt v 2), Value.int .u8 (byteAt v 3), Value.int .u8 (byteAt v 4), Value.int .u8 (byteAt v 5), Value.int .u8 (byteAt v 6), Value.int .u8 (byteAt v 7)] := by
    simp only [Lib.byteCells, Lib.beBytes, Lib.leBytes, List.reverse_cons, List.reverse_nil, List.nil_append, List.cons_append, List.map, Lib.toUInt8_mod, byteAt, Nat.div_div_eq_div_mul]
    simp
  rw [h]
  match j, hj with
  | 0, _ => rfl
  | 1, _ => rfl
  | 2, _ => rfl
  | 3, _ => rfl
  | 4, _ => rfl
  | 5, _ => rfl
  | 6, _ => rfl
  | 7, _ => rfl

theorem key_at (hi lo j : Nat) (hj : j < 16) : (Lib.byteCells (Lib.beBytes 8 hi) ++ Lib.byteCells (Lib.beBytes 8 lo))[j]? = some (.int .u8 (keyByte hi lo j)) := by
  have hl : (Lib.byteCells (Lib.beBytes 8 hi)).length = 8 := by rw [Lib.byteCells_length, Lib.beBytes_length]
  by_cases h : j < 8
  · rw [List.getElem?_append_left (by omega), bytes_at hi j h]
    simp [keyByte, h]
  · rw [List.getElem?_append_right (by omega), hl, bytes_at lo (j - 8) (by omega)]
    simp [keyByte, h]

theorem step_div (a k : Nat) : a / 256 ^ k = 256 * (a / 256 ^ (k + 1)) + a / 256 ^ k % 256 := by
  rw [Nat.pow_succ, ← Nat.div_div_eq_div_mul]
  omega

/-- Equal first bytes: equal leading parts. -/
theorem lead_eq (a b : Nat) (ha : a < 256 ^ 8) (hb : b < 256 ^ 8) : ∀ i, i ≤ 8 → (∀ j, j < i → byteAt a j = byteAt b j) → a / 256 ^ (8 - i) = b / 256 ^ (8 - i)
  | 0, _, _ => by rw [Nat.div_eq_of_lt ha, Nat.div_eq_of_lt hb]
  | i + 1, hi, h => by
    have ih := lead_eq a b ha hb i (by omega) (fun j hj => h j (by omega))
    have e := h i (by omega)
    have k1 : 8 - i = 7 - i + 1 := by omega
    have k2 : 8 - (i + 1) = 7 - i := by omega
    rw [k1] at ih
    rw [k2, step_div a, step_div b, ih]
    unfold byteAt at e
    rw [e]

/-- The first differing byte decides. -/
theorem lead_lt (a b : Nat) (ha : a < 256 ^ 8) (hb : b < 256 ^ 8) (i : Nat) (hi : i < 8) (h : ∀ j, j < i → byteAt a j = byteAt b j) (hlt : byteAt a i < byteAt b i) : a < b := by
  have ih := lead_eq a b ha hb i (by omega) h
  have k1 : 8 - i = 7 - i + 1 := by omega
  rw [k1] at ih
  have s1 := step_div a (7 - i)
  have s2 := step_div b (7 - i)
  unfold byteAt at hlt
  rw [ih] at s1
  have : a / 256 ^ (7 - i) < b / 256 ^ (7 - i) := by omega
  exact Nat.lt_of_not_le fun hle => absurd (Nat.div_le_div_right (c := 256 ^ (7 - i)) hle) (by omega)

theorem lead_all (a b : Nat) (ha : a < 256 ^ 8) (hb : b < 256 ^ 8) (h : ∀ j, j < 8 → byteAt a j = byteAt b j) : a = b := by
  have := lead_eq a b ha hb 8 (Nat.le_refl _) h
  simpa using this

theorem key_lt (h1 l1 h2 l2 : Nat) (a1 : h1 < 256 ^ 8) (a2 : l1 < 256 ^ 8) (a3 : h2 < 256 ^ 8) (a4 : l2 < 256 ^ 8) (i : Nat) (hi : i < 16) (h : ∀ j, j < i → keyByte h1 l1 j = keyByte h2 l2 j) (hlt : keyByte h1 l1 i < keyByte h2 l2 i) :
    h1 < h2 ∨ (h1 = h2 ∧ l1 < l2) := by
  by_cases h8 : i < 8
  · left
    refine lead_lt h1 h2 a1 a3 i h8 (fun j hj => ?_) ?_
    · have := h j hj
      simp [keyByte, show j < 8 by omega] at this
      omega
    · simp [keyByte, h8] at hlt
      omega
  · right
    refine ⟨lead_all h1 h2 a1 a3 fun j hj => ?_, lead_lt l1 l2 a2 a4 (i - 8) (by omega) (fun j hj => ?_) ?_⟩
    · have := h j (by omega)
      simp [keyByte, hj] at this
      omega
    · have := h (j + 8) (by omega)
      simp [keyByte] at this
      omega
    · simp [keyByte, h8] at hlt
      omega

/-- THE PLAIN LAW: the bytes compare as the keys. -/
theorem cmp_key (h1 l1 h2 l2 : Nat) (a1 : h1 < 18446744073709551616) (a2 : l1 < 18446744073709551616) (a3 : h2 < 18446744073709551616) (a4 : l2 < 18446744073709551616) (r : Int) (h : CmpIs (keyByte h1 l1) (keyByte h2 l2) 16 r) :
    r = keyCmp h1 l1 h2 l2 := by
  rcases h with ⟨i, hi, he, hlt, rfl⟩ | ⟨i, hi, he, hlt, rfl⟩ | ⟨he, rfl⟩
  · rcases key_lt h1 l1 h2 l2 (by omega) (by omega) (by omega) (by omega) i hi he hlt with h | ⟨rfl, h⟩
    · simp [keyCmp, h]
    · simp [keyCmp, h]
  · rcases key_lt h2 l2 h1 l1 (by omega) (by omega) (by omega) (by omega) i hi (fun j hj => (he j hj).symm) hlt with h | ⟨rfl, h⟩
    · have n1 : ¬ h1 < h2 := by omega
      simp [keyCmp, h, n1]
    · have n1 : ¬ l1 < l2 := by omega
      simp [keyCmp, h, n1]
  · have e1 : h1 = h2 := lead_all h1 h2 (by omega) (by omega) fun j hj => by
      have := he j (by omega)
      simp [keyByte, hj] at this
      omega
    have e2 : l1 = l2 := lead_all l1 l2 (by omega) (by omega) fun j hj => by
      have := he (j + 8) (by omega)
      simp [keyByte] at this
      omega
    subst e1 e2
    simp [keyCmp]
end Go.Proofs.Qxb6613397a
