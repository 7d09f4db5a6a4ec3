import Derived.Test.Qxb6613397aBin
import Derived.Lib.EndianMore
import Derived.WalkKit
import Derived.BigCall
import Derived.RegionTactic
import Derived.BigQuiet
import Derived.Deep.RegionWith
namespace Go.Proofs.Qxb6613397a
open Go.Shelf Go.RowKit

/-- Uint64 at cells that hold a number's bytes gives the number back. -/
theorem beRead (g o n c v : Nat) (hv : v < 18446744073709551616) (w : World) (hn : 8 ≤ n)
    (hc : ∀ j u, (Lib.byteCells (Lib.beBytes 8 v))[j]? = some u → w.cell? ⟨g, o + j, none⟩ = some u) :
    Calls Try.prog 21 #[.agg #[], .slice (some ⟨g, o, none⟩) n c] w fun e w' => e = .returned (.int .u64 v) ∧ Below w.heap.size w w' := by
  obtain ⟨B0, B1, B2, B3, B4, B5, B6, B7, hB⟩ : ∃ B0 B1 B2 B3 B4 B5 B6 B7, Lib.beBytes 8 v = [B0, B1, B2, B3, B4, B5, B6, B7] := ⟨_, _, _, _, _, _, _, _, rfl⟩
  rw [hB] at hc
  have h := beUint64 g o n c B0 B1 B2 B3 B4 B5 B6 B7 w hn (hc 0 _ rfl) (hc 1 _ rfl) (hc 2 _ rfl) (hc 3 _ rfl) (hc 4 _ rfl) (hc 5 _ rfl) (hc 6 _ rfl) (hc 7 _ rfl)
  rw [← hB, Lib.beNat_beBytes 8 v (by omega)] at h
  exact h

theorem cells_kept {w w' : World} {g o : Nat} {xs : List Value} (hb : Below w.heap.size w w') (hc : ∀ j u, xs[j]? = some u → w.cell? ⟨g, o + j, none⟩ = some u) :
    ∀ j u, xs[j]? = some u → w'.cell? ⟨g, o + j, none⟩ = some u := fun j u hj => by
  have hs := hc j u hj
  rw [hb.cell (p := ⟨g, o + j, none⟩) (by have := World.block_lt_of_cell? w _ hs; exact this)]
  exact hs

theorem zeros {w w2 w3 : World} (h2 : Below (w.alloc (.cells #[.int .u64 0, .int .u64 0] 44)).drew.heap.size (w.alloc (.cells #[.int .u64 0, .int .u64 0] 44)).drew w2) (h3 : Below w2.heap.size w2 w3) :
    w3.cell? ⟨w.heap.size, 0, none⟩ = some (.int .u64 0) ∧ w3.cell? ⟨w.heap.size, 1, none⟩ = some (.int .u64 0) ∧ w3.frozen? ⟨w.heap.size, 0, none⟩ = false ∧ w3.frozen? ⟨w.heap.size, 1, none⟩ = false ∧ Below w.heap.size w w3 := by
  have hlt : w.heap.size < (w.alloc (.cells #[.int .u64 0, .int .u64 0] 44)).drew.heap.size := by show w.heap.size < (w.alloc _).heap.size; simp
  have hb := h2.trans (h3.mono h2.size)
  refine ⟨?_, ?_, ?_, ?_, ?_⟩
  · rw [hb.cell (p := ⟨w.heap.size, 0, none⟩) hlt]; exact World.cell?_alloc_at _ _ _ _ rfl
  · rw [hb.cell (p := ⟨w.heap.size, 1, none⟩) hlt]; exact World.cell?_alloc_at _ _ _ _ rfl
  · rw [hb.frozen (p := ⟨w.heap.size, 0, none⟩) hlt]; exact World.frozen?_alloc_at _ _ _ _ rfl
  · rw [hb.frozen (p := ⟨w.heap.size, 1, none⟩) hlt]; exact World.frozen?_alloc_at _ _ _ _ rfl
  · exact (((Below.refl _ w).alloc (Nat.le_refl _) _).drew).trans (hb.mono (Nat.le_of_lt hlt))

set_option maxHeartbeats 8000000 in
set_option maxRecDepth 100000 in
/-- decodeKey at 16 bytes that spell hi and lo: the key. -/
theorem decodeKey (g o n c hi lo : Nat) (hh : hi < 18446744073709551616) (hl : lo < 18446744073709551616) (w : World) (hn : 16 ≤ n) (hnc : n ≤ c)
    (h1 : ∀ j u, (Lib.byteCells (Lib.beBytes 8 hi))[j]? = some u → w.cell? ⟨g, o + j, none⟩ = some u)
    (h2 : ∀ j u, (Lib.byteCells (Lib.beBytes 8 lo))[j]? = some u → w.cell? ⟨g, o + 8 + j, none⟩ = some u) :
    Calls Try.prog 17 #[.slice (some ⟨g, o, none⟩) n c] w fun e w' => e = .returned (.agg #[.int .u64 hi, .int .u64 lo]) ∧ Below w.heap.size w w' := by
  have t1 : (0 : Int) ≤ 8 := by omega
  have t2 : (8 : Int) ≤ (n : Int) := by omega
  have t3 : c ≠ 8 := by omega
  have b1 : Below w.heap.size w (w.alloc (.cells #[.int .u64 0, .int .u64 0] 44)).drew := ((Below.refl _ w).alloc (Nat.le_refl _) _).drew
  have d1 := cells_kept b1 h1
  have d2 := cells_kept b1 h2
  go_enter Try.func17, Try.ntmps17
  go_wp2
  refine wp_region_any (by kernel_rfl) ?_
  change wpAny _ _ _ _ _ _ _ (World.drew _)
  refine wpAny_take (i := 0) (v := .agg #[]) rfl (by kernel_rfl) (by kernel_rfl) (by kernel_rfl) (fun _ _ _ h => h) (Or.inl ⟨by rfl, by intro w; go_simp⟩) ?_
  refine wpAny_take (i := 1) (v := .slice (some ⟨g, o, none⟩) n c) rfl (by kernel_rfl) (by kernel_rfl) (by kernel_rfl) (fun _ _ _ h => h) (Or.inl ⟨by rfl, by intro w; go_simp⟩) ?_
  refine wpAny_take (i := 3) (v := .agg #[]) rfl (by kernel_rfl) (by kernel_rfl) (by kernel_rfl) (fun _ _ _ h => h) (Or.inl ⟨by rfl, by intro w; go_simp⟩) ?_
  refine wpAny_take (i := 4) (v := .slice (some ⟨g, o, none⟩) n c) rfl (by kernel_rfl) (by kernel_rfl) (by kernel_rfl) (fun _ _ _ h => h) (Or.inl ⟨by rfl, by intro w; go_simp⟩) ?_
  refine wpAny_take (i := 5) (v := .slice (some ⟨g, o + 8, none⟩) (n - 8) (c - 8)) rfl (by kernel_rfl) (by kernel_rfl) (by kernel_rfl) (fun _ _ _ h => h) (Or.inl ⟨by rfl, by intro w; go_simp⟩) ?_
  refine wpAny_ready (rs := [2]) (by kernel_rfl) (by simp) ?_
  refine AllReady.cons rfl (fun K hK => ?_) AllReady.nil
  go_simp
  go_wp2_with (
    go_at_call 21
    refine (beRead g o n c hi hh _ (by omega) d1).mono ?_
    rintro e w2 ⟨rfl, hb2⟩
    have d3 := cells_kept hb2 d2
    have z2 := hb2)
  refine wpAny_ready (rs := [6]) (by kernel_rfl) (by simp) ?_
  refine AllReady.cons rfl (fun K hK => ?_) AllReady.nil
  go_simp
  go_wp2_with (
    go_at_call 21
    refine (beRead g (o + 8) (n - 8) (c - 8) lo hl _ (by omega) d3).mono ?_
    rintro e w3 ⟨rfl, hb3⟩
    have z3 := zeros hb2 hb3)
  obtain ⟨c0, c1, f0, f1, bb⟩ := z3
  refine wpAny_ready (rs := [7]) (by kernel_rfl) (by simp) ?_
  refine AllReady.cons rfl (fun K hK => ?_) AllReady.nil
  go_simp
  refine hK _ _ ?_
  clear hK K
  refine wpAny_ready (rs := [8]) (by kernel_rfl) (by simp) ?_
  refine AllReady.cons rfl (fun K hK => ?_) AllReady.nil
  go_simp
  refine hK _ _ ?_
  clear hK K
  refine wpAny_done (by kernel_rfl) ?_ _
  go_wp2
  refine bodyPost_ret (v := .agg #[.int .u64 hi, .int .u64 lo]) (by simp [results, Try.results17, go_sem, c0, c1]) rfl ⟨rfl, ?_⟩
  exact (bb.setCell (p := ⟨w.heap.size, 0, none⟩) (Nat.le_refl _) _).setCell (p := ⟨w.heap.size, 1, none⟩) (Nat.le_refl _) _

set_option maxHeartbeats 8000000 in
set_option maxRecDepth 100000 in
/-- ZZdecodeKey at 16 bytes that spell hi and lo: (hi, lo). -/
theorem zzDecodeKey (g o n c hi lo : Nat) (hh : hi < 18446744073709551616) (hl : lo < 18446744073709551616) (w : World) (hn : 16 ≤ n) (hnc : n ≤ c)
    (h1 : ∀ j u, (Lib.byteCells (Lib.beBytes 8 hi))[j]? = some u → w.cell? ⟨g, o + j, none⟩ = some u)
    (h2 : ∀ j u, (Lib.byteCells (Lib.beBytes 8 lo))[j]? = some u → w.cell? ⟨g, o + 8 + j, none⟩ = some u) :
    Calls Try.prog 9 #[.slice (some ⟨g, o, none⟩) n c] w fun e w' => e = .returned (.tuple #[.int .u64 hi, .int .u64 lo]) ∧ Below w.heap.size w w' := by
  have hA := decodeKey g o n c hi lo hh hl w hn hnc h1 h2
  clear h1 h2
  go_enter Try.func9, Try.ntmps9
  go_wp2_with (go_at_call 17; refine hA.mono ?_; rintro e w2 ⟨rfl, hb2⟩)
  go_quiet (fail)
  go_wp2
  go_ret2
  refine ⟨rfl, ?_⟩
  have h := hb2.alloc hb2.size (.cells #[.int .u64 hi, .int .u64 lo] 44)
  exact ⟨h.os, h.tape, h.output, h.size, h.block⟩
end Go.Proofs.Qxb6613397a
