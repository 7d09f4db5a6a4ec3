/-
  WALK of zzBytes_FnLegacyFactoryFunctionsSplitAtAnyCut: true only where both slices are short.
-/
import Derived.Test.Qxb6613236aPlain
namespace Go.Proofs.Qxb6613236a
open Go.ChangeShapes Go.WideShapes Go.ChangeAt Go.RowKit

set_option maxHeartbeats 8000000 in
theorem zz_any (a : Option Addr) (len cap : Nat) (a' : Option Addr) (len' cap' : Nat) (N V N' V' : Nat → ByteArray) (w : World) (hl : len ≤ 9223372036854775807) (hl' : len' ≤ 9223372036854775807) (hs : Specs w a len N V) (hs' : Specs w a' len' N' V')
    (hz : ∀ i, i < len → (N i).size ≤ 9223372036854775807 ∧ (V i).size ≤ 9223372036854775807) (hz' : ∀ i, i < len' → (N' i).size ≤ 9223372036854775807 ∧ (V' i).size ≤ 9223372036854775807) :
    Calls Try.prog 5 #[.slice a len cap, .slice a' len' cap'] w fun e w' => (e = .returned (.bool false) ∨ e = .returned (.bool true) ∧ len ≤ 1048576 ∧ len' ≤ 1048576) ∧ w' = w := by
  by_cases hb : len ≤ 1048576
  · have hs2 : (len < 1) ∨ (∃ b off, a = some ⟨b, off, none⟩ ∧ ∀ i, i < len → w.cell? ⟨b, off + i * 2, none⟩ = some (.string (N i)) ∧ w.cell? ⟨b, off + i * 2 + 1, none⟩ = some (.string (V i))) := by
      rcases hs with h | h
      · exact .inl (by omega)
      · exact .inr h
    have hs2' : (len' < 1) ∨ (∃ b off, a' = some ⟨b, off, none⟩ ∧ ∀ i, i < len' → w.cell? ⟨b, off + i * 2, none⟩ = some (.string (N' i)) ∧ w.cell? ⟨b, off + i * 2 + 1, none⟩ = some (.string (V' i))) := by
      rcases hs' with h | h
      · exact .inl (by omega)
      · exact .inr h
    clear hs hs'
    rcases hs2 with h0 | ⟨b, off, rfl, hN⟩
    all_goals rcases hs2' with h0' | ⟨b', off', rfl, hN'⟩
    all_goals
      go_enter Try.func5, Try.ntmps5
      go_wp2
      go_loop [5, 6] (fun z i => ∃ (k : Nat) (s : Int), k ≤ len ∧ i = .int .i64 k ∧ z = .int .i64 s ∧ 0 ≤ s ∧ s ≤ 1048576) (fun _ i => len - (intOf i).toNat)
      case atStart => exact ⟨0, _, Nat.zero_le _, rfl, rfl, by omega, by omega⟩
      case round =>
        obtain ⟨k, s, hk, rfl, rfl, hs0, hs1⟩ := hrel
        by_cases hlt : k < len
        · first
            | omega
            | (obtain ⟨z1, z2⟩ := hz k hlt
               obtain ⟨c1, c2⟩ := hN k hlt
               clear hz hz' hN
               try clear hN'
               go_wp2
               all_goals first
                 | (go_ret; exact ⟨.inl rfl, rfl⟩)
                 | (go_round
                    case rel => exact ⟨k + 1, _, by omega, by go_num, rfl, by omega, by omega⟩
                    case measure => simp [intOf]; omega))
        · by_cases hb' : len' ≤ 1048576 ∧ s + len' ≤ 1048576
          · obtain ⟨hb1, hb2⟩ := hb'
            go_wp2
            go_loop [5, 7] (fun z i => ∃ (k : Nat) (s : Int), k ≤ len' ∧ i = .int .i64 k ∧ z = .int .i64 s ∧ 0 ≤ s ∧ s ≤ 1048576) (fun _ i => len' - (intOf i).toNat)
            case atStart => exact ⟨0, _, Nat.zero_le _, rfl, rfl, by omega, by omega⟩
            case round =>
              clear hs0 hs1 hb2 hlt hk
              obtain ⟨k, s, hk, rfl, rfl, hs0, hs1⟩ := hrel
              by_cases hlt : k < len'
              · first
                  | omega
                  | (obtain ⟨z1, z2⟩ := hz' k hlt
                     obtain ⟨c1, c2⟩ := hN' k hlt
                     clear hz hz' hN'
                     try clear hN
                     go_wp2
                     all_goals first
                       | (go_ret; exact ⟨.inl rfl, rfl⟩)
                       | (go_round
                          case rel => exact ⟨k + 1, _, by omega, by go_num, rfl, by omega, by omega⟩
                          case measure => simp [intOf]; omega))
              · go_wp2
                go_ret
                first | exact ⟨.inr rfl, rfl⟩ | exact ⟨.inr ⟨rfl, hb, hb1⟩, rfl⟩
          · have hb2 : (1048576 : Int) < len' ∨ (len' : Int) ≤ 1048576 ∧ 1048576 < s + len' := by omega
            clear hb'
            rcases hb2 with hb2 | ⟨hb2, hb3⟩
            all_goals first
              | omega
              | (go_wp2
                 go_ret
                 exact ⟨.inl rfl, rfl⟩)
  · go_enter Try.func5, Try.ntmps5
    go_wp2
    go_ret
    exact ⟨.inl rfl, rfl⟩

end Go.Proofs.Qxb6613236a
