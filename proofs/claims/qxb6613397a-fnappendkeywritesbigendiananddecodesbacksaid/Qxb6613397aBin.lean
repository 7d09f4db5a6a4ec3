import Derived.Test.Qxb6613397aRows
import Derived.Shelf.Bin.BEUint64
import Derived.Shelf.Bin.BEAppendUint64
import Derived.Shelf.Bin.BEAppendUint64Arg
import Derived.Shelf.Lay
import Derived.Ground.MnProg
import Derived.Deep.Onto
import Derived.Below
namespace Go.Proofs.Qxb6613397a
open Go.Shelf Go.RowKit

shelf_lay LaysBin.n42 Mn 42 at Try as lays42
shelf_lay LaysBin.n44 Mn 44 at Try as lays44

/-- binary.BigEndian.Uint64, laid at this program. -/
theorem beUint64 (g o n c : Nat) (b0 b1 b2 b3 b4 b5 b6 b7 : UInt8) (w : World) (hn : 8 ≤ n)
    (c0 : w.cell? ⟨g, o, none⟩ = some (.int .u8 b0.toNat)) (c1 : w.cell? ⟨g, o + 1, none⟩ = some (.int .u8 b1.toNat)) (c2 : w.cell? ⟨g, o + 2, none⟩ = some (.int .u8 b2.toNat)) (c3 : w.cell? ⟨g, o + 3, none⟩ = some (.int .u8 b3.toNat)) (c4 : w.cell? ⟨g, o + 4, none⟩ = some (.int .u8 b4.toNat)) (c5 : w.cell? ⟨g, o + 5, none⟩ = some (.int .u8 b5.toNat)) (c6 : w.cell? ⟨g, o + 6, none⟩ = some (.int .u8 b6.toNat)) (c7 : w.cell? ⟨g, o + 7, none⟩ = some (.int .u8 b7.toNat)) :
    Calls Try.prog 21 #[.agg #[], .slice (some ⟨g, o, none⟩) n c] w fun e w' => e = .returned (.int .u64 (Lib.beNat [b0, b1, b2, b3, b4, b5, b6, b7])) ∧ Below w.heap.size w w' := Any.binary_BE_Uint64 lays42 g o n c b0 b1 b2 b3 b4 b5 b6 b7 w hn c0 c1 c2 c3 c4 c5 c6 c7

/-- binary.BigEndian.AppendUint64 onto a row of the call's own. -/
theorem beAppend64 (B n v : Nat) (hv : v < 18446744073709551616) (sv : Value) (xs : List Value) (w : World) (hown : w.ownsRow B 5 1 sv n xs) (hBw : B ≤ w.heap.size) (hlim : n + 8 ≤ 140737488355328) :
    Calls Try.prog 20 #[.agg #[], sv, .int .u64 v] w fun e w' => ∃ v', e = .returned v' ∧ w'.ownsRow B 5 1 v' (n + 8) (xs ++ Lib.byteCells (Lib.beBytes 8 v)) ∧ Below B w w' := Any.binary_BE_AppendUint64 lays44 B n v hv sv xs w hown hBw hlim

/-- A SLICE WITHOUT SPARE ROOM: nil, or a row whose capacity is its length. -/
def FullRow (w : World) (sv : Value) (n : Nat) (xs : List Value) : Prop :=
  xs.length = n ∧ ((sv = .slice none 0 0 ∧ n = 0) ∨ ∃ g, sv = .slice (some ⟨g, 0, none⟩) n n ∧ ∀ j u, xs[j]? = some u → w.cell? ⟨g, 0 + j, none⟩ = some u)

/-- binary.BigEndian.AppendUint64 onto a slice without spare room: what comes back is a new row; of what was there nothing has turned. -/
theorem beAppendFull (n v : Nat) (hv : v < 18446744073709551616) (sv : Value) (xs : List Value) (w : World) (h : FullRow w sv n xs) (hlim : n + 8 ≤ 140737488355328) :
    Calls Try.prog 20 #[.agg #[], sv, .int .u64 v] w fun e w' => ∃ v', e = .returned v' ∧ w'.ownsRow w.heap.size 5 1 v' (n + 8) (xs ++ Lib.byteCells (Lib.beBytes 8 v)) ∧ Below w.heap.size w w' := by
  obtain ⟨hl, ⟨rfl, rfl⟩ | ⟨g, rfl, hc⟩⟩ := h
  · obtain rfl : xs = [] := List.eq_nil_of_length_eq_zero hl
    exact beAppend64 w.heap.size 0 v hv _ _ w (World.ownsRow_nil _ _ _ _) (Nat.le_refl _) hlim
  · refine (Any.binary_BE_AppendUint64_arg lays44 g 0 n n v hv xs w hl hc (fun h => absurd h (by omega)) hlim).mono ?_
    rintro e w' (⟨h, _⟩ | ⟨_, v', he, ho, hb⟩)
    · exact absurd h (by omega)
    · exact ⟨v', he, ho.mono (by omega), hb⟩

theorem FullRow.kept {w w' : World} {sv : Value} {n : Nat} {xs : List Value} (h : FullRow w sv n xs) (hb : Below w.heap.size w w') : FullRow w' sv n xs := by
  obtain ⟨hl, hx | ⟨g, rfl, hc⟩⟩ := h
  · exact ⟨hl, .inl hx⟩
  · refine ⟨hl, .inr ⟨g, rfl, fun j u hj => ?_⟩⟩
    have hs := hc j u hj
    rw [hb.cell (p := ⟨g, 0 + j, none⟩) (by have := World.block_lt_of_cell? w _ hs; exact this)]
    exact hs
end Go.Proofs.Qxb6613397a
