import Derived.Test.Qxb6613397aBin
import Derived.WalkKit
import Derived.BigCall
import Derived.Deep.OwnRows
import Derived.Laws.IdiomCopy
import Derived.Lib.EndianMore
namespace Go.Proofs.Qxb6613397a
open Go.RowKit

set_option maxHeartbeats 1000000 in
set_option maxRecDepth 100000 in
/-- The bound on the length: past 2^20 bytes it says no. -/
theorem zz_no (a : Option Addr) (n c : Nat) (h l : Int) (w : World) (hn : 1048576 < n) :
    Calls Try.prog 6 #[.slice a n c, .int .u64 h, .int .u64 l] w fun e w' => e = .returned (.bool false) ∧ w' = w := by
  have t : (1048576 : Int) < (n : Int) := by omega
  go_enter Try.func6, Try.ntmps6
  go_wp2
  go_ret
  exact ⟨rfl, rfl⟩

set_option maxHeartbeats 1000000 in
set_option maxRecDepth 100000 in
theorem zz_yes (a : Option Addr) (n c : Nat) (h l : Int) (w : World) (hn : n ≤ 1048576) :
    Calls Try.prog 6 #[.slice a n c, .int .u64 h, .int .u64 l] w fun e w' => e = .returned (.bool true) ∧ w' = w := by
  have t : ¬ (1048576 : Int) < (n : Int) := by omega
  go_enter Try.func6, Try.ntmps6
  go_wp2
  go_ret
  exact ⟨rfl, rfl⟩

theorem info5 : (Try.prog.info? 5).map (fun i => (i.zero, i.size, i.bytes)) = some (some (.int .u8 0), 1, 1) := by kernel_rfl
theorem size5 : (Try.prog.info? 5).map (·.size) = some 1 := by kernel_rfl
theorem und22 : Try.prog.underlying 22 = some (.slice 5) := by kernel_rfl

theorem eq_nil (w : World) : (binOp .eql 22 (.slice none 0 0) (.slice none 0 0)).run Try.prog w = .ok (.bool true) w := by kernel_rfl
theorem eq_some (x : Addr) (n c : Nat) (w : World) : (binOp .eql 22 (.slice (some x) n c) (.slice none 0 0)).run Try.prog w = .ok (.bool false) w := by kernel_rfl

/-- cloneBytes of nil: nil. -/
theorem clone_nil (w : World) : Calls Try.prog 7 #[.slice none 0 0] w fun e w' => e = .returned (.slice none 0 0) ∧ w' = w := by
  have hq := eq_nil
  go_enter Try.func7, Try.ntmps7
  go_wp2
  go_ret
  exact ⟨rfl, rfl⟩

set_option maxHeartbeats 1000000 in
set_option maxRecDepth 100000 in
theorem clone_some (x : Addr) (n c : Nat) (cs : List Value) (w : World) (hn : n ≤ 1048576) (hl : cs.length = n) (hc : ∀ j v, cs[j]? = some v → w.cell? (x.add j) = some v) (h1 : ∀ v ∈ cs, v.oneCell' = true) :
    Calls Try.prog 7 #[.slice (some x) n c] w fun e w' => ∃ v, e = .returned v ∧ FullRow w' v n cs ∧ Below w.heap.size w w' := by
  have hmk := run_make_row' (P := Try.prog) 22 5 (.int .u8 0) 1 und22 info5 rfl .i64 .i64 n (by omega) (by omega)
  obtain ⟨w2, hcp, hrow, hb⟩ : ∃ w2, (Builtin.copy_ #[22, 22] 3 #[.slice (some ⟨w.heap.size, 0, none⟩) n n, .slice (some x) n c]).run Try.prog (w.alloc (.cells (madeCells #[.int .u8 0] n) 5)) = .ok (goInt n) w2 ∧ FullRow w2 (.slice (some ⟨w.heap.size, 0, none⟩) n n) n cs ∧ Below w.heap.size w w2 := by
    have hcell : ∀ j, j < cs.length → (w.alloc (.cells (madeCells #[.int .u8 0] n) 5)).cell? ⟨w.heap.size, 0 + j, none⟩ = some (.int .u8 0) := fun j hj => by
      rw [World.cell?_alloc_at _ _ _ _ rfl]
      have hj' : j < n := by omega
      simp [madeCells, Nat.mod_one, hj']
    have hfr : ∀ j, j < cs.length → (w.alloc (.cells (madeCells #[.int .u8 0] n) 5)).frozen? ⟨w.heap.size, 0 + j, none⟩ = false := fun j hj =>
      World.frozen?_alloc_at _ _ _ _ rfl
    have h := run_copy_cells (P := Try.prog) (w.alloc (.cells (madeCells #[.int .u8 0] n) 5)) 22 22 3 5 w.heap.size 0 n n x n c cs und22 size5 (by simp [hl])
      (fun j v hj => cell?_alloc_old _ (hc j v hj)) (fun j hj => by rw [hcell j hj]; rfl) hfr h1
    rw [hl] at h
    refine ⟨_, h, ⟨hl, .inr ⟨_, rfl, fun j u hj => ?_⟩⟩, ((Below.refl _ w).alloc (Nat.le_refl _) _).trans (Lib.below_setCells_w (Nat.le_refl _) _ _ _)⟩
    obtain ⟨hlt, rfl⟩ := List.getElem?_eq_some_iff.1 hj
    exact World.cell?_setCells_in w.heap.size _ 0 _ (fun j hj => by rw [hcell j hj]; rfl) j hlt
  clear hc h1
  have hq := eq_some x n c
  go_enter Try.func7, Try.ntmps7
  go_wp2
  go_ret
  exact ⟨_, rfl, hrow, hb⟩
end Go.Proofs.Qxb6613397a
