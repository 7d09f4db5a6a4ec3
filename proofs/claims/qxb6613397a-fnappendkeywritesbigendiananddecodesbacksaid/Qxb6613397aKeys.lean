import Derived.Test.Qxb6613397aAppend
import Derived.Test.Qxb6613397aDecode
import Derived.Test.Qxb6613397aPlain
import Derived.WideShapes
namespace Go.Proofs.Qxb6613397a
open Go.RowKit Go.WideShapes

/-- The 16 bytes of the key (hi, lo) lie at block g from o on. -/
def KeyCells (w : World) (g o hi lo : Nat) : Prop := ∀ j, j < 16 → w.cell? ⟨g, o + j, none⟩ = some (.int .u8 (keyByte hi lo j))

theorem KeyCells.kept {w w' : World} {g o hi lo : Nat} (h : KeyCells w g o hi lo) (hb : Below w.heap.size w w') : KeyCells w' g o hi lo := fun j hj => by
  have hs := h j hj
  rw [hb.cell (p := ⟨g, o + j, none⟩) (by have := World.block_lt_of_cell? w _ hs; exact this)]
  exact hs

/-- What appendKey hands back, opened. -/
theorem row_open {w : World} {B n : Nat} {v : Value} {xs : List Value} (h : w.ownsRow B 5 1 v n xs) (hn : 0 < n) :
    ∃ g c, v = .slice (some ⟨g, 0, none⟩) n c ∧ n ≤ c ∧ c ≤ maxLen ∧ B ≤ g ∧ ∀ j u, xs[j]? = some u → w.cell? ⟨g, j, none⟩ = some u := by
  have h' := h
  obtain ⟨_, ⟨_, h0⟩ | ⟨g, c, cur, rfl, hB, hg, hc, hm, _⟩⟩ := h
  · omega
  · refine ⟨g, c, rfl, hc, hm, hB, fun j u hj => ?_⟩
    have := h'.cells rfl j u hj
    rwa [add_plain, Nat.zero_add] at this

theorem key_open {w : World} {B hi lo : Nat} {v : Value} (h : w.ownsRow B 5 1 v (0 + 8 + 8) ([] ++ Lib.byteCells (Lib.beBytes 8 hi) ++ Lib.byteCells (Lib.beBytes 8 lo))) :
    ∃ g c, v = .slice (some ⟨g, 0, none⟩) 16 c ∧ 16 ≤ c ∧ KeyCells w g 0 hi lo := by
  obtain ⟨g, c, rfl, hc, _, _, hcell⟩ := row_open h (by omega)
  refine ⟨g, c, rfl, hc, fun j hj => ?_⟩
  have := hcell j _ (by rw [List.nil_append]; exact key_at hi lo j hj)
  simpa using this

/-- ZZdecodeKey at a key's bytes. -/
theorem decode_at (g o n c hi lo : Nat) (hh : hi < 18446744073709551616) (hl : lo < 18446744073709551616) (w : World) (hn : 16 ≤ n) (hnc : n ≤ c) (h : KeyCells w g o hi lo) :
    Calls Try.prog 9 #[.slice (some ⟨g, o, none⟩) n c] w fun e w' => e = .returned (.tuple #[.int .u64 hi, .int .u64 lo]) ∧ Below w.heap.size w w' := by
  have len : ∀ (v j : Nat) u, (Lib.byteCells (Lib.beBytes 8 v))[j]? = some u → j < 8 := fun v j u hu => by
    have := (List.getElem?_eq_some_iff.1 hu).1
    rwa [Lib.byteCells_length, Lib.beBytes_length] at this
  refine zzDecodeKey g o n c hi lo hh hl w hn hnc (fun j u hu => ?_) (fun j u hu => ?_)
  · have hj := len _ _ _ hu
    rw [bytes_at _ _ hj] at hu
    have := h j (by omega)
    rw [this, ← hu]
    simp [keyByte, hj]
  · have hj := len _ _ _ hu
    rw [bytes_at _ _ hj] at hu
    have := h (8 + j) (by omega)
    rw [Nat.add_assoc, this, ← hu]
    simp [keyByte, show ¬ 8 + j < 8 by omega]

theorem nilRow (w : World) : FullRow w (.slice none 0 0) 0 [] := ⟨rfl, .inl ⟨rfl, rfl⟩⟩

/-- A uint64 is a number below 2^64. -/
theorem nat_of {a : Int} (h : (Lit.int .u64 a).wf = true) : ∃ n : Nat, a = n ∧ n < 18446744073709551616 := by
  have h2 : 0 ≤ a ∧ a < 18446744073709551616 := by
    have hmin : IntKind.u64.min = 0 := by decide
    have hmax : IntKind.u64.max = 18446744073709551615 := by decide
    simp only [Lit.wf, hmin, hmax, Bool.and_eq_true, decide_eq_true_eq] at h
    omega
  exact ⟨a.toNat, by omega, by omega⟩
end Go.Proofs.Qxb6613397a
