/-
  WHAT THE WALKS SHARE: two stores that change places; pointers compared; what the manager and a task are in memory.
-/
import Derived.Test.Qxb6613392aFmtMap
import Derived.LaidEqlPtr
import Derived.Lib.Builder
namespace Go.Proofs.Qxb6613392aFmt
open Go.ChangeShapes Go.WideShapes Go.ChangeAt Go.RowKit Go.Conc Go.MuLone Go.Maps Go.WideMaps

theorem set_comm {w : World} {a b : Addr} (u v : Value) (hab : a.block ≠ b.block) : (w.setCell a u).setCell b v = (w.setCell b v).setCell a u := by
  have hh : ((w.setCell a u).setCell b v).heap = ((w.setCell b v).setCell a u).heap := by
    apply Array.ext_getElem?
    intro i
    simp only [World.setCell, Array.getElem?_modify]
    by_cases h1 : a.block = i
    · by_cases h2 : b.block = i
      · exact absurd (h1.trans h2.symm) hab
      · simp [h1, h2]
    · by_cases h2 : b.block = i
      · simp [h1, h2]
      · simp [h1, h2]
  show ({ w with heap := ((w.setCell a u).setCell b v).heap } : World) = { w with heap := ((w.setCell b v).setCell a u).heap }
  rw [hh]

theorem own_below {w w' : World} {bm n : Nat} {D : DataW Unit} (h : w.ownsMap Tryf.prog 9 ptrElem bm n D) (hb : Below w.heap.size w w') : w'.ownsMap Tryf.prog 9 ptrElem bm n D := by
  have hlt := h.lt
  obtain ⟨es, cl, h1, h2⟩ := h
  exact ⟨es, cl, (hb.block bm hlt).trans h1, h2⟩

theorem Tryf.size55 : (Tryf.prog.info? 55).map (fun i => i.size) = some 6 := by kernel_rfl
theorem Tryf.size73 : (Tryf.prog.info? 73).map (fun i => i.size) = some 18 := by kernel_rfl
theorem eql30_same (x : Nat) (w : World) : (binOp .eql 30 (.pointer (some ⟨x, 0, none⟩)) (.pointer (some ⟨x, 0, none⟩))).run Tryf.prog w = .ok (.bool true) w := by
  obtain ⟨j, hj, _⟩ := Option.map_eq_some_iff.1 Tryf.size55
  exact run_eql_ptr_same w _ Tryf.underlying30 hj
theorem eql28_same (x : Nat) (w : World) : (binOp .eql 28 (.pointer (some ⟨x, 0, none⟩)) (.pointer (some ⟨x, 0, none⟩))).run Tryf.prog w = .ok (.bool true) w := by
  obtain ⟨j, hj, _⟩ := Option.map_eq_some_iff.1 Tryf.size73
  exact run_eql_ptr_same w _ Tryf.underlying28 hj
theorem neq28_same (x : Nat) (w : World) : (binOp .neq 28 (.pointer (some ⟨x, 0, none⟩)) (.pointer (some ⟨x, 0, none⟩))).run Tryf.prog w = .ok (.bool false) w := by
  obtain ⟨j, hj, _⟩ := Option.map_eq_some_iff.1 Tryf.size73
  exact Lib.run_neq_ptr_same w _ Tryf.underlying28 hj

/-- THE MANAGER AT BLOCK M: its lock free, its map at block bm, open. -/
def Mgr (w : World) (M bm : Nat) : Prop :=
  w.cell? ⟨M, 2, none⟩ = some (.int .i32 0) ∧ w.frozen? ⟨M, 2, none⟩ = false ∧ w.cell? ⟨M, 4, none⟩ = some (.map (some bm)) ∧ w.cell? ⟨M, 5, none⟩ = some (.bool false)
theorem Mgr.below {w w' : World} {M bm : Nat} (h : Mgr w M bm) (hb : Below w.heap.size w w') : Mgr w' M bm := by
  obtain ⟨h1, h2, h3, h4⟩ := h
  have hlt := World.block_lt_of_cell? w _ h1
  exact ⟨(hb.cell hlt).trans h1, (hb.frozen hlt).trans h2, (hb.cell (p := ⟨M, 4, none⟩) hlt).trans h3, (hb.cell (p := ⟨M, 5, none⟩) hlt).trans h4⟩

/-- THE TASK AT BLOCK t, named s, its session made; x: its execution in flight, canceled or not. -/
def TaskAt (w : World) (t : Nat) (s : ByteArray) (x : Option Nat) (fl : Bool) : Prop :=
  ∃ c v2, w.heap[t]? = some (.cells #[.string s, .chan (some c), v2, .nilIface, .bool false, .pointer (x.map fun e => ⟨e, 0, none⟩)] 55 (0, 0)) ∧ w.heap[c]? = some (.chan 0 #[] true 0 0 false) ∧ ∀ e, x = some e → w.cell? ⟨e, 1, none⟩ = some (.bool fl)
theorem TaskAt.below {w w' : World} {t : Nat} {s : ByteArray} {x : Option Nat} {fl : Bool} (h : TaskAt w t s x fl) (hb : Below w.heap.size w w') : TaskAt w' t s x fl := by
  obtain ⟨c, v2, h1, h2, h3⟩ := h
  exact ⟨c, v2, (hb.block t (Array.getElem?_eq_some_iff.1 h1).1).trans h1, (hb.block c (Array.getElem?_eq_some_iff.1 h2).1).trans h2, fun e he => (hb.cell (World.block_lt_of_cell? w _ (h3 e he))).trans (h3 e he)⟩
end Go.Proofs.Qxb6613392aFmt
