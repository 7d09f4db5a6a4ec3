import Derived.Test.Qxb6613397aBin
import Derived.WalkKit
import Derived.BigCall
import Derived.RegionTactic
import Derived.Deep.RegionWith
namespace Go.Proofs.Qxb6613397a
open Go.Shelf Go.RowKit

theorem FullRow.drew {w : World} {sv : Value} {n : Nat} {xs : List Value} (h : FullRow w sv n xs) : FullRow w.drew sv n xs := h

theorem key_kept (hi lo : Nat) (w w2 : World) (hb : Below (w.alloc (.cells #[.int .u64 hi, .int .u64 lo] 44)).drew.heap.size (w.alloc (.cells #[.int .u64 hi, .int .u64 lo] 44)).drew w2) :
    w2.cell? ⟨w.heap.size, 1, none⟩ = some (.int .u64 lo) := by
  rw [hb.cell (p := ⟨w.heap.size, 1, none⟩) (by show w.heap.size < (w.alloc _).heap.size; simp)]
  exact World.cell?_alloc_at _ _ _ _ rfl

theorem append2 (n hi lo : Nat) (hl : lo < 18446744073709551616) (w : World) (v2 : Value) (xs : List Value) (w2 : World)
    (ho : w2.ownsRow (w.alloc (.cells #[.int .u64 hi, .int .u64 lo] 44)).drew.heap.size 5 1 v2 (n + 8) (xs ++ Lib.byteCells (Lib.beBytes 8 hi)))
    (hb : Below (w.alloc (.cells #[.int .u64 hi, .int .u64 lo] 44)).drew.heap.size (w.alloc (.cells #[.int .u64 hi, .int .u64 lo] 44)).drew w2) (hlim : n + 16 ≤ 140737488355328) :
    Calls Try.prog 20 #[.agg #[], v2, .int .u64 lo] w2 fun e w' => ∃ v', e = .returned v' ∧ w'.ownsRow w.heap.size 5 1 v' (n + 8 + 8) (xs ++ Lib.byteCells (Lib.beBytes 8 hi) ++ Lib.byteCells (Lib.beBytes 8 lo)) ∧ Below w.heap.size w w' := by
  have hle : w.heap.size ≤ (w.alloc (.cells #[.int .u64 hi, .int .u64 lo] 44)).drew.heap.size := by show _ ≤ (w.alloc _).heap.size; simp
  refine (beAppend64 w.heap.size (n + 8) lo hl v2 _ w2 (ho.mono hle) (Nat.le_trans hle hb.size) (by omega)).mono ?_
  rintro e w' ⟨v', he, ho', hb'⟩
  exact ⟨v', he, ho', ((((Below.refl _ w).alloc (Nat.le_refl _) _).drew).trans (hb.mono hle)).trans hb'⟩

set_option maxHeartbeats 8000000 in
set_option maxRecDepth 100000 in
/-- appendKey onto a slice without spare room: a new row that holds the old bytes, then the 16 bytes of the key; of what was there nothing has turned. The statement draws its order: the operations that yield in whatever world are taken first, then each order that is left is walked. -/
theorem appendKey (n hi lo : Nat) (hh : hi < 18446744073709551616) (hl : lo < 18446744073709551616) (sv : Value) (xs : List Value) (w : World) (hf : FullRow w sv n xs) (hlim : n + 16 ≤ 140737488355328) :
    Calls Try.prog 16 #[sv, .agg #[.int .u64 hi, .int .u64 lo]] w fun e w' => ∃ v', e = .returned v' ∧ w'.ownsRow w.heap.size 5 1 v' (n + 8 + 8) (xs ++ Lib.byteCells (Lib.beBytes 8 hi) ++ Lib.byteCells (Lib.beBytes 8 lo)) ∧ Below w.heap.size w w' := by
  have b1 : Below w.heap.size w (w.alloc (.cells #[.int .u64 hi, .int .u64 lo] 44)) := (Below.refl _ w).alloc (Nat.le_refl _) _
  have hf1 : FullRow (w.alloc (.cells #[.int .u64 hi, .int .u64 lo] 44)) sv n xs := hf.kept b1
  have hA := beAppendFull n hi hh sv xs (w.alloc (.cells #[.int .u64 hi, .int .u64 lo] 44)).drew hf1.drew (by omega)
  go_enter Try.func16, Try.ntmps16
  go_wp2
  refine wp_region_any (by kernel_rfl) ?_
  change wpAny _ _ _ _ _ _ _ (World.drew _)
  refine wpAny_take (i := 0) (v := .agg #[]) rfl (by kernel_rfl) (by kernel_rfl) (by kernel_rfl) (fun _ _ _ h => h) (Or.inl ⟨by rfl, by intro w; go_simp⟩) ?_
  refine wpAny_take (i := 1) (v := .agg #[]) rfl (by kernel_rfl) (by kernel_rfl) (by kernel_rfl) (fun _ _ _ h => h) (Or.inl ⟨by rfl, by intro w; go_simp⟩) ?_
  refine wpAny_take (i := 2) (v := sv) rfl (by kernel_rfl) (by kernel_rfl) (by kernel_rfl) (fun _ _ _ h => h) (Or.inl ⟨by rfl, by intro w; go_simp⟩) ?_
  refine wpAny_take (i := 3) (v := .pointer (some ⟨w.heap.size, 0, none⟩)) rfl (by kernel_rfl) (by kernel_rfl) (by kernel_rfl) (fun _ _ _ h => h) (Or.inl ⟨by rfl, by intro w; go_simp⟩) ?_
  refine wpAny_take (i := 6) (v := .pointer (some ⟨w.heap.size, 1, none⟩)) rfl (by kernel_rfl) (by kernel_rfl) (by kernel_rfl) (fun _ _ _ h => h) (Or.inl ⟨by rfl, by intro w; go_simp⟩) ?_
  refine wpAny_ready (rs := [4, 7]) (by kernel_rfl) (by simp) ?_
  refine AllReady.cons rfl (fun K hK => ?_) ?_
  · go_simp
    refine hK _ _ ?_
    clear hK K
    refine wpAny_ready (rs := [5, 7]) (by kernel_rfl) (by simp) ?_
    refine AllReady.cons rfl (fun K hK => ?_) ?_
    · go_simp
      go_wp2_with (
        go_at_call 20
        refine hA.mono ?_
        rintro e w2 ⟨v2, rfl, ho2, hb2⟩
        have hc2 := key_kept hi lo w w2 hb2)
      try (refine hK _ _ ?_)
      try (clear hK K)
      refine wpAny_ready (rs := [7]) (by kernel_rfl) (by simp) ?_
      refine AllReady.cons rfl (fun K hK => ?_) ?_
      · go_simp
        refine hK _ _ ?_
        clear hK K
        refine wpAny_ready (rs := [8]) (by kernel_rfl) (by simp) ?_
        refine AllReady.cons rfl (fun K hK => ?_) ?_
        · go_simp
          go_wp2_with (
            go_at_call 20
            refine (append2 n hi lo hl w v2 xs w2 ho2 hb2 hlim).mono ?_
            rintro e w3 ⟨v3, rfl, ho3, hb3⟩)
          try (refine hK _ _ ?_)
          try (clear hK K)
          refine wpAny_ready (rs := [9]) (by kernel_rfl) (by simp) ?_
          refine AllReady.cons rfl (fun K hK => ?_) ?_
          · go_simp
            refine hK _ _ ?_
            clear hK K
            refine wpAny_done (by kernel_rfl) ?_ _
            go_wp2
            go_ret
            exact ⟨_, rfl, ho3, hb3⟩
          exact AllReady.nil
        exact AllReady.nil
      exact AllReady.nil
    refine AllReady.cons rfl (fun K hK => ?_) ?_
    · go_simp
      refine hK _ _ ?_
      clear hK K
      refine wpAny_ready (rs := [5]) (by kernel_rfl) (by simp) ?_
      refine AllReady.cons rfl (fun K hK => ?_) ?_
      · go_simp
        go_wp2_with (
          go_at_call 20
          refine hA.mono ?_
          rintro e w2 ⟨v2, rfl, ho2, hb2⟩
          have hc2 := key_kept hi lo w w2 hb2)
        try (refine hK _ _ ?_)
        try (clear hK K)
        refine wpAny_ready (rs := [8]) (by kernel_rfl) (by simp) ?_
        refine AllReady.cons rfl (fun K hK => ?_) ?_
        · go_simp
          go_wp2_with (
            go_at_call 20
            refine (append2 n hi lo hl w v2 xs w2 ho2 hb2 hlim).mono ?_
            rintro e w3 ⟨v3, rfl, ho3, hb3⟩)
          try (refine hK _ _ ?_)
          try (clear hK K)
          refine wpAny_ready (rs := [9]) (by kernel_rfl) (by simp) ?_
          refine AllReady.cons rfl (fun K hK => ?_) ?_
          · go_simp
            refine hK _ _ ?_
            clear hK K
            refine wpAny_done (by kernel_rfl) ?_ _
            go_wp2
            go_ret
            exact ⟨_, rfl, ho3, hb3⟩
          exact AllReady.nil
        exact AllReady.nil
      exact AllReady.nil
    exact AllReady.nil
  refine AllReady.cons rfl (fun K hK => ?_) ?_
  · go_simp
    refine hK _ _ ?_
    clear hK K
    refine wpAny_ready (rs := [4]) (by kernel_rfl) (by simp) ?_
    refine AllReady.cons rfl (fun K hK => ?_) ?_
    · go_simp
      refine hK _ _ ?_
      clear hK K
      refine wpAny_ready (rs := [5]) (by kernel_rfl) (by simp) ?_
      refine AllReady.cons rfl (fun K hK => ?_) ?_
      · go_simp
        go_wp2_with (
          go_at_call 20
          refine hA.mono ?_
          rintro e w2 ⟨v2, rfl, ho2, hb2⟩
          have hc2 := key_kept hi lo w w2 hb2)
        try (refine hK _ _ ?_)
        try (clear hK K)
        refine wpAny_ready (rs := [8]) (by kernel_rfl) (by simp) ?_
        refine AllReady.cons rfl (fun K hK => ?_) ?_
        · go_simp
          go_wp2_with (
            go_at_call 20
            refine (append2 n hi lo hl w v2 xs w2 ho2 hb2 hlim).mono ?_
            rintro e w3 ⟨v3, rfl, ho3, hb3⟩)
          try (refine hK _ _ ?_)
          try (clear hK K)
          refine wpAny_ready (rs := [9]) (by kernel_rfl) (by simp) ?_
          refine AllReady.cons rfl (fun K hK => ?_) ?_
          · go_simp
            refine hK _ _ ?_
            clear hK K
            refine wpAny_done (by kernel_rfl) ?_ _
            go_wp2
            go_ret
            exact ⟨_, rfl, ho3, hb3⟩
          exact AllReady.nil
        exact AllReady.nil
      exact AllReady.nil
    exact AllReady.nil
  exact AllReady.nil

set_option maxHeartbeats 4000000 in
set_option maxRecDepth 100000 in
/-- ZZappendKey: the same. -/
theorem zzAppendKey (n hi lo : Nat) (hh : hi < 18446744073709551616) (hl : lo < 18446744073709551616) (sv : Value) (xs : List Value) (w : World) (hf : FullRow w sv n xs) (hlim : n + 16 ≤ 140737488355328) :
    Calls Try.prog 8 #[sv, .int .u64 hi, .int .u64 lo] w fun e w' => ∃ v', e = .returned v' ∧ w'.ownsRow w.heap.size 5 1 v' (n + 8 + 8) (xs ++ Lib.byteCells (Lib.beBytes 8 hi) ++ Lib.byteCells (Lib.beBytes 8 lo)) ∧ Below w.heap.size w w' := by
  have hA := appendKey n hi lo hh hl sv xs w hf hlim
  go_enter Try.func8, Try.ntmps8
  go_wp2_with (go_at_call 16; refine hA.mono ?_; rintro e w2 ⟨v2, rfl, ho2, hb2⟩)
  go_wp2
  go_ret
  exact ⟨_, rfl, ho2, hb2⟩
end Go.Proofs.Qxb6613397a
