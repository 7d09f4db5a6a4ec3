import Derived.Test.Qxb6613397aKeys
import Derived.Test.Qxb6613397aClone
import Derived.BigQuiet
namespace Go.Proofs.Qxb6613397a
open Go.RowKit Go.WideShapes

/-- A slice of bytes that came in: nil, or the cells cs lie there. -/
def RowIn (w : World) (a : Option Addr) (n c : Nat) (cs : List Value) : Prop :=
  (a = none ∧ n = 0 ∧ c = 0 ∧ cs = []) ∨ ∃ x, a = some x ∧ cs.length = n ∧ ∀ j v, cs[j]? = some v → w.cell? (x.add j) = some v

theorem RowIn.kept {w w' : World} {a : Option Addr} {n c : Nat} {cs : List Value} (h : RowIn w a n c cs) (hb : Below w.heap.size w w') : RowIn w' a n c cs := by
  rcases h with h | ⟨x, rfl, hl, hc⟩
  · exact .inl h
  · refine .inr ⟨x, rfl, hl, fun j v hj => ?_⟩
    have hs := hc j v hj
    rw [hb.cell (World.block_lt_of_cell? w _ hs)]
    exact hs

theorem clone_any (a : Option Addr) (n c : Nat) (cs : List Value) (w : World) (hn : n ≤ 1048576) (h : RowIn w a n c cs) (h1 : ∀ v ∈ cs, v.oneCell' = true) :
    Calls Try.prog 7 #[.slice a n c] w fun e w' => ∃ v, e = .returned v ∧ FullRow w' v n cs ∧ Below w.heap.size w w' := by
  rcases h with ⟨rfl, rfl, rfl, rfl⟩ | ⟨x, rfl, hl, hc⟩
  · refine (clone_nil w).mono ?_
    rintro e w' ⟨rfl, rfl⟩
    exact ⟨_, rfl, nilRow _, Below.refl _ _⟩
  · exact clone_some x n c cs w hn hl hc h1

/-- A slice without spare room, opened. -/
theorem full_open {w : World} {v : Value} {n : Nat} {cs : List Value} (h : FullRow w v n cs) :
    ∃ a, v = .slice a n n ∧ ∀ k u, cs[k]? = some u → ∃ g, a = some ⟨g, 0, none⟩ ∧ w.cell? ⟨g, k, none⟩ = some u := by
  obtain ⟨hl, ⟨rfl, rfl⟩ | ⟨g, rfl, hc⟩⟩ := h
  · obtain rfl : cs = [] := List.eq_nil_of_length_eq_zero hl
    exact ⟨none, rfl, fun k u hu => by simp at hu⟩
  · exact ⟨_, rfl, fun k u hu => ⟨g, rfl, by have := hc k u hu; rwa [Nat.zero_add] at this⟩⟩

/-- What ZZappendKey hands back, opened: the old bytes, then the key's. -/
theorem out_open {w : World} {B n hi lo : Nat} {v : Value} {cs : List Value} (hl : cs.length = n) (h : w.ownsRow B 5 1 v (n + 8 + 8) (cs ++ Lib.byteCells (Lib.beBytes 8 hi) ++ Lib.byteCells (Lib.beBytes 8 lo))) :
    ∃ g c m, v = .slice (some ⟨g, 0, none⟩) m c ∧ m = n + 16 ∧ m ≤ c ∧ c ≤ maxLen ∧ (∀ k u, cs[k]? = some u → w.cell? ⟨g, k, none⟩ = some u) ∧ KeyCells w g n hi lo := by
  obtain ⟨g, c, rfl, hc, hm, _, hcell⟩ := row_open h (by omega)
  refine ⟨g, c, _, rfl, by omega, hc, hm, fun k u hu => ?_, fun j hj => ?_⟩
  · have hk := (List.getElem?_eq_some_iff.1 hu).1
    refine hcell k u ?_
    rw [List.append_assoc, List.getElem?_append_left hk]
    exact hu
  · refine hcell (n + j) _ ?_
    rw [List.append_assoc, List.getElem?_append_right (by omega), hl, Nat.add_sub_cancel_left]
    exact key_at hi lo j hj

theorem byte_hi0 (hi lo : Nat) : keyByte hi lo 0 = (hi : Int) / 72057594037927936 % 256 := by simp [keyByte, byteAt]
theorem byte_lo0 (hi lo : Nat) : keyByte hi lo (8 + 0) = (lo : Int) / 72057594037927936 % 256 := by simp [keyByte, byteAt]
theorem byte_hi1 (hi lo : Nat) : keyByte hi lo 1 = (hi : Int) / 281474976710656 % 256 := by simp [keyByte, byteAt]
theorem byte_lo1 (hi lo : Nat) : keyByte hi lo (8 + 1) = (lo : Int) / 281474976710656 % 256 := by simp [keyByte, byteAt]
theorem byte_hi2 (hi lo : Nat) : keyByte hi lo 2 = (hi : Int) / 1099511627776 % 256 := by simp [keyByte, byteAt]
theorem byte_lo2 (hi lo : Nat) : keyByte hi lo (8 + 2) = (lo : Int) / 1099511627776 % 256 := by simp [keyByte, byteAt]
theorem byte_hi3 (hi lo : Nat) : keyByte hi lo 3 = (hi : Int) / 4294967296 % 256 := by simp [keyByte, byteAt]
theorem byte_lo3 (hi lo : Nat) : keyByte hi lo (8 + 3) = (lo : Int) / 4294967296 % 256 := by simp [keyByte, byteAt]
theorem byte_hi4 (hi lo : Nat) : keyByte hi lo 4 = (hi : Int) / 16777216 % 256 := by simp [keyByte, byteAt]
theorem byte_lo4 (hi lo : Nat) : keyByte hi lo (8 + 4) = (lo : Int) / 16777216 % 256 := by simp [keyByte, byteAt]
theorem byte_hi5 (hi lo : Nat) : keyByte hi lo 5 = (hi : Int) / 65536 % 256 := by simp [keyByte, byteAt]
theorem byte_lo5 (hi lo : Nat) : keyByte hi lo (8 + 5) = (lo : Int) / 65536 % 256 := by simp [keyByte, byteAt]
theorem byte_hi6 (hi lo : Nat) : keyByte hi lo 6 = (hi : Int) / 256 % 256 := by simp [keyByte, byteAt]
theorem byte_lo6 (hi lo : Nat) : keyByte hi lo (8 + 6) = (lo : Int) / 256 % 256 := by simp [keyByte, byteAt]
theorem byte_hi7 (hi lo : Nat) : keyByte hi lo 7 = (hi : Int) % 256 := by simp [keyByte, byteAt]
theorem byte_lo7 (hi lo : Nat) : keyByte hi lo (8 + 7) = (lo : Int) % 256 := by simp [keyByte, byteAt]

set_option maxHeartbeats 8000000 in
set_option maxRecDepth 100000 in
/-- THE LAW's WALK. -/
theorem writes (a : Option Addr) (n c hi lo : Nat) (cs : List Value) (hh : hi < 18446744073709551616) (hl : lo < 18446744073709551616) (w : World) (hr : RowIn w a n c cs) (hcl : cs.length = n) (hu : ∀ v ∈ cs, ∃ z, v = .int .u8 z) :
    Calls Try.prog 3 #[.slice a n c, .int .u64 hi, .int .u64 lo] w fun e w' => e = .returned (.bool true) ∧ Below w.heap.size w w' := by
  have h1 : ∀ v ∈ cs, v.oneCell' = true := fun v hv => by obtain ⟨z, rfl⟩ := hu v hv; rfl
  by_cases big : 1048576 < n
  · clear hr hu h1
    go_enter Try.func3, Try.ntmps3
    go_wp2_with fail
    refine (zz_no a n c hi lo w big).mono ?_
    rintro e w1 ⟨rfl, rfl⟩
    go_wp2
    go_ret
    exact ⟨rfl, Below.refl _ _⟩
  · have hn : n ≤ 1048576 := by omega
    have t : ¬ (1048576 : Int) < (n : Int) := by omega
    have HR : Hid (RowIn w a n c cs) := hr
    have HU : Hid (∀ v ∈ cs, ∃ z, v = .int .u8 z) := hu
    have H1 : Hid (∀ v ∈ cs, v.oneCell' = true) := h1
    have HCL : Hid (cs.length = n) := hcl
    clear hr hu h1 hcl big
    go_enter Try.func3, Try.ntmps3
    go_wp2_with fail
    refine (zz_yes a n c hi lo w hn).mono ?_
    rintro e w1 ⟨rfl, rfl⟩
    go_wp2_with fail
    refine (clone_any a n c cs w1 hn HR.out H1.out).mono ?_
    rintro e w2 ⟨v2, rfl, f2, b2⟩
    have r2 := HR.out.kept b2
    go_wp2_with fail
    refine (clone_any a n c cs w2 hn r2 H1.out).mono ?_
    rintro e w3 ⟨v3, rfl, f3, b3⟩
    have f2' := f2.kept b3
    clear f2 r2
    go_wp2_with fail
    refine (zzAppendKey n hi lo hh hl v3 cs w3 f3 (by omega)).mono ?_
    rintro e w4 ⟨v4, rfl, ho, b4⟩
    have f4 := f2'.kept b4
    have bb : Below w1.heap.size w1 w4 := (b2.trans (b3.mono b2.size)).trans (b4.mono (Nat.le_trans b2.size b3.size))
    obtain ⟨g, cp, m, rfl, hm, hmc, hcm, hold, hkey⟩ := out_open HCL.out ho
    obtain ⟨a1, rfl, hor⟩ := full_open f4
    clear ho f4 f2' b2 b3 b4 f3 HR H1
    have hmi : (m : Int) = (n : Int) + 16 := by omega
    have HM : Hid (m = n + 16) := hm
    clear hm
    go_wp2_with fail
    go_loopw [10] (fun i wr => ∃ (k q : Nat), k ≤ n ∧ i = .int .i64 k ∧ wr = w4.drewN q) (fun i _ => n - (intOf i).toNat)
    case atStart => exact ⟨0, 0, Nat.zero_le _, rfl, rfl⟩
    case round =>
      obtain ⟨k, q, hk, rfl, rfl⟩ := hrel
      by_cases hlt : k < n
      · obtain ⟨z, hz⟩ : ∃ z, cs[k]? = some (.int .u8 z) := by
          have hlen := HCL.out
          have hkl : k < cs.length := by omega
          obtain ⟨z, hz⟩ := HU.out cs[k] (List.getElem_mem hkl)
          exact ⟨z, by rw [List.getElem?_eq_getElem hkl, hz]⟩
        have d1 := hold k _ hz
        obtain ⟨g1, rfl, d2⟩ := hor k _ hz
        clear hold hor hz hkey
        have x1 : (k : Int) < (m : Int) := by omega
        have x2 : (k : Int) < (n : Int) := by omega
        go_wp2
        go_quiet (fail)
        go_wp2
        go_roundw
        case rel => exact ⟨k + 1, _, by omega, by go_num, rfl⟩
        case measure => simp [intOf]; omega
      · obtain rfl : k = n := by omega
        clear hold hor hlt
        go_wp2_with fail
        go_loopw [11] (fun i wr => ∃ (j : Nat), j ≤ 8 ∧ i = .int .i64 j ∧ wr = w4.drewN q) (fun i _ => 8 - (intOf i).toNat)
        case atStart => exact ⟨0, Nat.zero_le _, rfl, rfl⟩
        case round =>
          obtain ⟨j, hj, rfl, rfl⟩ := hrel
          by_cases h8 : j < 8
          · have : j = 0 ∨ j = 1 ∨ j = 2 ∨ j = 3 ∨ j = 4 ∨ j = 5 ∨ j = 6 ∨ j = 7 := by omega
            rcases this with rfl | rfl | rfl | rfl | rfl | rfl | rfl | rfl
            · have y1 := hkey 0 (by omega)
              have y2 := hkey (8 + 0) (by omega)
              rw [byte_hi0] at y1
              rw [byte_lo0] at y2
              rw [← Nat.add_assoc] at y2
              rw [Nat.add_zero] at y1 y2
              clear hkey
              go_wp2
              go_roundw
              case rel => exact ⟨1, by omega, by go_num, trivial⟩
              case measure => simp [intOf]
            · have y1 := hkey 1 (by omega)
              have y2 := hkey (8 + 1) (by omega)
              rw [byte_hi1] at y1
              rw [byte_lo1] at y2
              rw [← Nat.add_assoc] at y2
              clear hkey
              go_wp2
              go_roundw
              case rel => exact ⟨2, by omega, by go_num, trivial⟩
              case measure => simp [intOf]
            · have y1 := hkey 2 (by omega)
              have y2 := hkey (8 + 2) (by omega)
              rw [byte_hi2] at y1
              rw [byte_lo2] at y2
              rw [← Nat.add_assoc] at y2
              clear hkey
              go_wp2
              go_roundw
              case rel => exact ⟨3, by omega, by go_num, trivial⟩
              case measure => simp [intOf]
            · have y1 := hkey 3 (by omega)
              have y2 := hkey (8 + 3) (by omega)
              rw [byte_hi3] at y1
              rw [byte_lo3] at y2
              rw [← Nat.add_assoc] at y2
              clear hkey
              go_wp2
              go_roundw
              case rel => exact ⟨4, by omega, by go_num, trivial⟩
              case measure => simp [intOf]
            · have y1 := hkey 4 (by omega)
              have y2 := hkey (8 + 4) (by omega)
              rw [byte_hi4] at y1
              rw [byte_lo4] at y2
              rw [← Nat.add_assoc] at y2
              clear hkey
              go_wp2
              go_roundw
              case rel => exact ⟨5, by omega, by go_num, trivial⟩
              case measure => simp [intOf]
            · have y1 := hkey 5 (by omega)
              have y2 := hkey (8 + 5) (by omega)
              rw [byte_hi5] at y1
              rw [byte_lo5] at y2
              rw [← Nat.add_assoc] at y2
              clear hkey
              go_wp2
              go_roundw
              case rel => exact ⟨6, by omega, by go_num, trivial⟩
              case measure => simp [intOf]
            · have y1 := hkey 6 (by omega)
              have y2 := hkey (8 + 6) (by omega)
              rw [byte_hi6] at y1
              rw [byte_lo6] at y2
              rw [← Nat.add_assoc] at y2
              clear hkey
              go_wp2
              go_roundw
              case rel => exact ⟨7, by omega, by go_num, trivial⟩
              case measure => simp [intOf]
            · have y1 := hkey 7 (by omega)
              have y2 := hkey (8 + 7) (by omega)
              rw [byte_hi7] at y1
              rw [byte_lo7] at y2
              rw [← Nat.add_assoc] at y2
              clear hkey
              go_wp2
              go_roundw
              case rel => exact ⟨8, by omega, by go_num, trivial⟩
              case measure => simp [intOf]
          · obtain rfl : j = 8 := by omega
            have x1 : (k : Int) ≤ (m : Int) := by omega
            have x2 : cp ≠ k := by have := HM.out; omega
            have x3 : 16 ≤ m - k := by have := HM.out; omega
            have HX : Hid (m - k ≤ cp - k) := by show m - k ≤ cp - k; omega
            have HK : Hid (KeyCells (w4.drewN q) g k hi lo) := hkey
            have hb5 : Below w1.heap.size w1 (w4.drewN q) := ⟨bb.os, bb.tape, bb.output, bb.size, bb.block⟩
            clear hkey
            go_wp2_with fail
            refine (decode_at g k (m - k) (cp - k) hi lo hh hl _ x3 HX.out HK.out).mono ?_
            rintro e w5 ⟨rfl, hb6⟩
            go_wp2
            go_ret
            exact ⟨rfl, hb5.trans (hb6.mono hb5.size)⟩
end Go.Proofs.Qxb6613397a
