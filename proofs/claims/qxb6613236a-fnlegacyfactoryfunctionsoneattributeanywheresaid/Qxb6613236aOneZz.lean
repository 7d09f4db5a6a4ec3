/-
  WALK of zzBytes_FnLegacyFactoryFunctionsOneAttributeAnywhere: true only where the slice and the two strings are short.
-/
import Derived.Test.Qxb6613236aPlain
namespace Go.Proofs.Qxb6613236a
open Go.ChangeShapes Go.WideShapes Go.ChangeAt Go.RowKit

set_option maxHeartbeats 8000000 in
theorem zz2_any (a : Option Addr) (len cap : Nat) (sn sv : ByteArray) (pos : Int) (N V : Nat → ByteArray) (w : World) (hl : len ≤ 9223372036854775807) (hsn : sn.size ≤ 9223372036854775807) (hsv : sv.size ≤ 9223372036854775807) (hs : Specs w a len N V)
    (hz : ∀ i, i < len → (N i).size ≤ 9223372036854775807 ∧ (V i).size ≤ 9223372036854775807) :
    Calls Try.prog 13 #[.slice a len cap, .agg #[.string sn, .string sv], .int .i64 pos] w fun e w' => (e = .returned (.bool false) ∨ e = .returned (.bool true) ∧ len ≤ 1048576 ∧ sn.size ≤ 1048576 ∧ sv.size ≤ 1048576) ∧ Below w.heap.size w w' := by
  have bel : Below w.heap.size w (w.alloc (.cells #[.string sn, .string sv] 38)) := (Below.refl _ _).alloc (Nat.le_refl _) _
  by_cases hb : len ≤ 1048576
  · have hs2 : (len < 1) ∨ (∃ b off, a = some ⟨b, off, none⟩ ∧ ∀ i, i < len → (w.alloc (.cells #[.string sn, .string sv] 38)).cell? ⟨b, off + i * 2, none⟩ = some (.string (N i)) ∧ (w.alloc (.cells #[.string sn, .string sv] 38)).cell? ⟨b, off + i * 2 + 1, none⟩ = some (.string (V i))) := by
      rcases hs.below bel with h | h
      · exact .inl (by omega)
      · exact .inr h
    clear hs
    rcases hs2 with h0 | ⟨b, off, rfl, hN⟩
    all_goals
      go_enter Try.func13, Try.ntmps13
      go_wp2
      go_loop [7, 8] (fun z i => ∃ (k : Nat) (s : Int), k ≤ len ∧ i = .int .i64 k ∧ z = .int .i64 s ∧ 0 ≤ s ∧ s ≤ 1048576) (fun _ i => len - (intOf i).toNat)
      case atStart => exact ⟨0, _, Nat.zero_le _, rfl, rfl, by omega, by omega⟩
      case round =>
        obtain ⟨k, s, hk, rfl, rfl, hs0, hs1⟩ := hrel
        by_cases hlt : k < len
        · first
            | omega
            | (obtain ⟨z1, z2⟩ := hz k hlt
               obtain ⟨c1, c2⟩ := hN k hlt
               clear hz hN
               go_wp2
               all_goals first
                 | (go_ret; exact ⟨.inl rfl, bel⟩)
                 | (go_round
                    case rel => exact ⟨k + 1, _, by omega, by go_num, rfl, by omega, by omega⟩
                    case measure => simp [intOf]; omega))
        · by_cases hok : (sn.size : Int) ≤ 1048576 ∧ s + sn.size ≤ 1048576 ∧ (sv.size : Int) ≤ 1048576 ∧ s + sn.size + sv.size ≤ 1048576
          · obtain ⟨o1, o2, o3, o4⟩ := hok
            go_wp2
            go_ret
            exact ⟨.inr ⟨rfl, by omega, by omega⟩, bel⟩
          · go_wp2
            all_goals first
              | omega
              | (go_ret; exact ⟨.inl rfl, bel⟩)
  · go_enter Try.func13, Try.ntmps13
    go_wp2
    go_ret
    exact ⟨.inl rfl, bel⟩
end Go.Proofs.Qxb6613236a
