/-
  WALKS: zzBoolAt, zzLastIndex, zzStateTooBig, zzBytes.
-/
import Derived.Test.Qxb6613392aFmtParts
namespace Go.Proofs.Qxb6613392aFmt
open Go.ChangeShapes Go.WideShapes Go.ChangeAt Go.RowKit

/-- A []string THAT CAME IN. -/
def Strs (w : World) (a : Option Addr) (n : Nat) (S : Nat → ByteArray) : Prop := n < 1 ∨ ∃ b off, a = some ⟨b, off, none⟩ ∧ ∀ i, i < n → w.cell? ⟨b, off + i, none⟩ = some (.string (S i))
/-- A []bool THAT CAME IN. -/
def Bools (w : World) (a : Option Addr) (n : Nat) (R : Nat → Bool) : Prop := n < 1 ∨ ∃ b off, a = some ⟨b, off, none⟩ ∧ ∀ i, i < n → w.cell? ⟨b, off + i, none⟩ = some (.bool (R i))

def bAt (R : Nat → Bool) (n k : Nat) : Bool := decide (k < n) && R k

set_option maxHeartbeats 400000 in
theorem boolAt_any (a : Option Addr) (n cap k : Nat) (R : Nat → Bool) (w : World) (hn : n ≤ 9223372036854775807) (hb : Bools w a n R) :
    Calls Tryf.prog 10 #[.slice a n cap, .int .i64 k] w fun e w' => e = .returned (.bool (bAt R n k)) ∧ w' = w := by
  by_cases hk : k < n
  · rcases hb with h | ⟨b, off, rfl, hc⟩
    · omega
    · have hck := hc k hk
      clear hc
      have hb : bAt R n k = R k := by simp [bAt, hk]
      rw [hb]
      clear hb
      go_enter Tryf.func10, Tryf.ntmps10
      go_wp2
      go_ret
      exact ⟨rfl, rfl⟩
  · have hb' : bAt R n k = false := by simp [bAt, hk]
    rw [hb']
    clear hb' hb
    go_enter Tryf.func10, Tryf.ntmps10
    go_wp2
    go_ret
    exact ⟨rfl, rfl⟩

/-- The last place of s among the first k, or -1. -/
def lastI (S : Nat → ByteArray) (s : ByteArray) : Nat → Int
  | 0 => -1
  | k + 1 => if ((S k).toList == s.toList) = true then k else lastI S s k
theorem lastI_yes {S : Nat → ByteArray} {s : ByteArray} {k : Nat} (h : ((S k).toList == s.toList) = true) : lastI S s (k + 1) = k := by simp [lastI, h]
theorem lastI_no {S : Nat → ByteArray} {s : ByteArray} {k : Nat} (h : ((S k).toList == s.toList) = false) : lastI S s (k + 1) = lastI S s k := by simp [lastI, h]
theorem lastI_bd (S : Nat → ByteArray) (s : ByteArray) : ∀ k, -1 ≤ lastI S s k ∧ lastI S s k < k
  | 0 => by simp [lastI]
  | k + 1 => by
    have := lastI_bd S s k
    unfold lastI
    split <;> omega

theorem ret_int {k : IntKind} {a b : Int} (h : a = b) : Ending.returned (.int k a) = .returned (.int k b) := by rw [h]

set_option maxHeartbeats 400000 in
theorem last_any (a : Option Addr) (n cap : Nat) (S : Nat → ByteArray) (s : ByteArray) (w : World) (hn : n ≤ 65536) (hb : Strs w a n S) :
    Calls Tryf.prog 6 #[.slice a n cap, .string s] w fun e w' => e = .returned (.int .i64 (lastI S s n)) ∧ w' = w := by
  rcases hb with h | ⟨b, off, rfl, hc⟩
  all_goals
    go_enter Tryf.func6, Tryf.ntmps6
    go_wp2
    go_loop [5, 6] (fun l i => ∃ k : Nat, k ≤ n ∧ i = .int .i64 k ∧ l = .int .i64 (lastI S s k)) (fun _ i => n - (intOf i).toNat)
    case atStart => exact ⟨0, Nat.zero_le _, rfl, rfl⟩
    case round =>
      obtain ⟨k, hk, rfl, rfl⟩ := hrel
      by_cases hlt : k < n
      · first
          | omega
          | (have hck := hc k hlt
             clear hc
             go_wp2
             all_goals
               go_round
               case rel => exact ⟨k + 1, by omega, by go_num, by first | (rw [lastI_yes (by assumption)]) | (rw [lastI_no (by assumption)])⟩
               case measure => simp [intOf]; omega)
      · obtain rfl : k = n := by omega
        clear hlt
        go_wp2
        go_ret
        exact ⟨rfl, rfl⟩

set_option maxHeartbeats 2000000 in
theorem big_any (a : Option Addr) (n cap : Nat) (a1 : Option Addr) (n1 cap1 : Nat) (a2 : Option Addr) (n2 cap2 : Nat) (s q : ByteArray) (S : Nat → ByteArray) (w : World) (hn : n ≤ 9223372036854775807) (hn1 : n1 ≤ 9223372036854775807) (hn2 : n2 ≤ 9223372036854775807)
    (hs : s.size ≤ 9223372036854775807) (hq : q.size ≤ 9223372036854775807) (hb : Strs w a n S) :
    Calls Tryf.prog 5 #[.slice a n cap, .slice a1 n1 cap1, .slice a2 n2 cap2, .string s, .string q] w fun e w' => (e = .returned (.bool true) ∨ e = .returned (.bool false) ∧ n ≤ 65536) ∧ w' = w := by
  by_cases h : (n : Int) ≤ 65536 ∧ (n1 : Int) ≤ 65536 ∧ (n2 : Int) ≤ 65536 ∧ (s.size : Int) ≤ 1048576 ∧ (q.size : Int) ≤ 1048576
  · obtain ⟨h0, h1, h2, h3, h4⟩ := h
    by_cases h5 : (s.size : Int) + q.size + n1 + n2 + 16 * n ≤ 1048576
    · rcases hb with h6 | ⟨b, off, rfl, hc⟩
      all_goals
        go_enter Tryf.func5, Tryf.ntmps5
        go_wp2
        go_loop [11, 12] (fun z i => ∃ (k : Nat) (t : Int), k ≤ n ∧ i = .int .i64 k ∧ z = .int .i64 t) (fun _ i => n - (intOf i).toNat)
        case atStart => exact ⟨0, _, Nat.zero_le _, rfl, rfl⟩
        case round =>
          obtain ⟨k, t, hk, rfl, rfl⟩ := hrel
          by_cases hlt : k < n
          · first
              | omega
              | (have hck := hc k hlt
                 clear hc
                 go_wp2
                 all_goals first
                   | (go_ret; exact ⟨.inl rfl, rfl⟩)
                   | (go_round
                      case rel => exact ⟨k + 1, _, by omega, by go_num, rfl⟩
                      case measure => simp [intOf]; omega))
          · go_wp2
            go_ret
            first | exact ⟨.inr ⟨rfl, by omega⟩, rfl⟩ | exact ⟨.inr rfl, rfl⟩
    · go_enter Tryf.func5, Tryf.ntmps5
      go_wp2
      go_ret
      exact ⟨.inl rfl, rfl⟩
  · go_enter Tryf.func5, Tryf.ntmps5
    go_wp2
    all_goals first
      | omega
      | (go_ret; exact ⟨.inl rfl, rfl⟩)

set_option maxHeartbeats 2000000 in
theorem zz_any (a : Option Addr) (n cap : Nat) (a1 : Option Addr) (n1 cap1 : Nat) (a2 : Option Addr) (n2 cap2 : Nat) (s q : ByteArray) (S : Nat → ByteArray) (w : World) (hn : n ≤ 9223372036854775807) (hb : Strs w a n S) :
    Calls Tryf.prog 4 #[.slice a n cap, .slice a1 n1 cap1, .slice a2 n2 cap2, .string s, .string q] w fun e w' => (e = .returned (.bool false) ∨ e = .returned (.bool true)) ∧ w' = w := by
  rcases hb with h6 | ⟨b, off, rfl, hc⟩
  all_goals
    go_enter Tryf.func4, Tryf.ntmps4
    go_wp2
    all_goals first
      | (go_ret; first | exact ⟨.inl rfl, rfl⟩ | exact ⟨.inr rfl, rfl⟩)
      | (go_loop [11, 12] (fun z i => ∃ (k : Nat) (t : Int), k ≤ n ∧ i = .int .i64 k ∧ z = .int .i64 t) (fun _ i => n - (intOf i).toNat)
         case atStart => exact ⟨0, _, Nat.zero_le _, rfl, rfl⟩
         case round =>
           obtain ⟨k, t, hk, rfl, rfl⟩ := hrel
           by_cases hlt : k < n
           · first
               | omega
               | (have hck := hc k hlt
                  clear hc
                  go_wp2
                  all_goals first
                    | (go_ret; first | exact ⟨.inl rfl, rfl⟩ | exact ⟨.inr rfl, rfl⟩)
                    | (go_round
                       case rel => exact ⟨k + 1, _, by omega, by go_num, rfl⟩
                       case measure => simp [intOf]; omega))
           · go_wp2
             all_goals
               go_ret
               first | exact ⟨.inl rfl, rfl⟩ | exact ⟨.inr rfl, rfl⟩)
end Go.Proofs.Qxb6613392aFmt
