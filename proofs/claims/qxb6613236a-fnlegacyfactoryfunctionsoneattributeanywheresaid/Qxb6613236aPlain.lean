import Derived.Test.Qxb6613236aRows
import Derived.WalkKit
import Derived.ProofKit
import Derived.WalkSpells
import Derived.Deep.QuietTactic
import Derived.BigQuiet
import Derived.LaidEqlPtr
import Derived.Lib.Builder
namespace Go.Proofs.Qxb6613236a
open Go.RowKit

/-- The name is LegacyFactoryFunction. -/
def isL (s : ByteArray) : Bool := s.toList == [76, 101, 103, 97, 99, 121, 70, 97, 99, 116, 111, 114, 121, 70, 117, 110, 99, 116, 105, 111, 110]

/-- How many of the first k names are LegacyFactoryFunction. -/
def cnt (N : Nat → ByteArray) (k : Nat) : Nat := (((List.range k).map N).filter isL).length

theorem cnt_zero (N : Nat → ByteArray) : cnt N 0 = 0 := rfl
theorem cnt_yes (N : Nat → ByteArray) (k : Nat) (h : isL (N k) = true) : cnt N (k + 1) = cnt N k + 1 := by
  simp [cnt, List.range_succ, List.filter_append, h]
theorem cnt_no (N : Nat → ByteArray) (k : Nat) (h : isL (N k) = false) : cnt N (k + 1) = cnt N k := by
  simp [cnt, List.range_succ, List.filter_append, h]
theorem cnt_le (N : Nat → ByteArray) (k : Nat) : cnt N k ≤ k := by
  have := List.length_filter_le isL ((List.range k).map N)
  simpa [cnt] using this

/-- WHAT IS KNOWN OF A []AttrSpec THAT CAME IN: where it has elements, its first 'len' pairs of cells hold the names N and the values V. -/
def Specs (w : World) (a : Option Addr) (len : Nat) (N V : Nat → ByteArray) : Prop :=
  len = 0 ∨ ∃ b off, a = some ⟨b, off, none⟩ ∧ ∀ i, i < len → w.cell? ⟨b, off + i * 2, none⟩ = some (.string (N i)) ∧ w.cell? ⟨b, off + i * 2 + 1, none⟩ = some (.string (V i))

/-- A SLICE OF POINTERS: its elements are the blocks B, each by its head. -/
def Ptrs (w : World) (a : Option Addr) (n : Nat) (B : List Nat) : Prop :=
  B.length = n ∧ (n = 0 ∨ ∃ b off, a = some ⟨b, off, none⟩ ∧ ∀ i x, B[i]? = some x → w.cell? ⟨b, off + i, none⟩ = some (.pointer (some ⟨x, 0, none⟩)))

/-- Each block of the list is an attribute of that name. -/
def Named (w : World) (L : List (Nat × ByteArray)) : Prop := ∀ p ∈ L, w.cell? ⟨p.1, 3, none⟩ = some (.string p.2) ∧ ∃ c, w.heap[p.1]? = some (.cells c 44 (0, 0))

theorem Specs.below {w w' : World} {a : Option Addr} {len : Nat} {N V : Nat → ByteArray} (h : Specs w a len N V) (hb : Below w.heap.size w w') : Specs w' a len N V := by
  rcases h with h | ⟨b, off, ha, hc⟩
  · exact Or.inl h
  · refine Or.inr ⟨b, off, ha, fun i hi => ?_⟩
    obtain ⟨h1, h2⟩ := hc i hi
    exact ⟨(hb.cell (World.block_lt_of_cell? w _ h1)).trans h1, (hb.cell (World.block_lt_of_cell? w _ h2)).trans h2⟩

theorem Specs.short {w : World} {a : Option Addr} {len k : Nat} {N V : Nat → ByteArray} (h : Specs w a len N V) (hk : k ≤ len) : Specs w a k N V := by
  rcases h with h | ⟨b, off, ha, hc⟩
  · exact Or.inl (by omega)
  · exact Or.inr ⟨b, off, ha, fun i hi => hc i (by omega)⟩

theorem Ptrs.below {w w' : World} {a : Option Addr} {n : Nat} {B : List Nat} (h : Ptrs w a n B) (hb : Below w.heap.size w w') : Ptrs w' a n B := by
  refine ⟨h.1, ?_⟩
  rcases h.2 with h | ⟨b, off, ha, hc⟩
  · exact Or.inl h
  · exact Or.inr ⟨b, off, ha, fun i x hx => (hb.cell (World.block_lt_of_cell? w _ (hc i x hx))).trans (hc i x hx)⟩

theorem Named.below {w w' : World} {L : List (Nat × ByteArray)} (h : Named w L) (hb : Below w.heap.size w w') : Named w' L :=
  fun p hp => by
    obtain ⟨h1, c, h2⟩ := h p hp
    have hlt := World.block_lt_of_cell? w _ h1
    exact ⟨(hb.cell hlt).trans h1, c, (hb.block p.1 hlt).trans h2⟩


theorem ret_int {k : IntKind} {a b : Int} (h : a = b) : Ending.returned (.int k a) = .returned (.int k b) := by rw [h]

theorem Try.size44 : (Try.prog.info? 44).map (fun i => i.size) = some 7 := by kernel_rfl
theorem Try.info40 : (Try.prog.info? 40).map (fun i => (i.zero, i.size, i.bytes)) = some (some (.pointer none), 1, 8) := by kernel_rfl

/-- '!=' at one pointer twice. -/
theorem neq_same (x : Nat) (w : World) : (binOp .neq 40 (.pointer (some ⟨x, 0, none⟩)) (.pointer (some ⟨x, 0, none⟩))).run Try.prog w = .ok (.bool false) w := by
  obtain ⟨j, hj, _⟩ := Option.map_eq_some_iff.1 Try.size44
  exact Lib.run_neq_ptr_same w _ Try.underlying40 hj

/-- '!=' at two attributes. -/
theorem neq_other {x y : Nat} {w : World} {cx cy : Array Value} (hne : x ≠ y) (hx : w.heap[x]? = some (.cells cx 44 (0, 0))) (hy : w.heap[y]? = some (.cells cy 44 (0, 0))) :
    (binOp .neq 40 (.pointer (some ⟨x, 0, none⟩)) (.pointer (some ⟨y, 0, none⟩))).run Try.prog w = .ok (.bool true) w := by
  obtain ⟨j, hj, hs⟩ := Option.map_eq_some_iff.1 Try.size44
  have h : ∀ d : Nat, (Op.equalIn (d + 1) 40 (.pointer (some ⟨x, 0, none⟩)) (.pointer (some ⟨y, 0, none⟩))).run Try.prog w = .ok false w := fun d => by
    simp [Op.equalIn, run_underlying Try.underlying40, sizeOf, typeInfo, hj, hs, run_sameAddr_other (a := ⟨x, 0, none⟩) (b := ⟨y, 0, none⟩) w (fun e => hne (congrArg Addr.block e)) hx hy]
  simp only [binOp]
  simp [Op.equal, Op.maxDepth, h 9999]

end Go.Proofs.Qxb6613236a
