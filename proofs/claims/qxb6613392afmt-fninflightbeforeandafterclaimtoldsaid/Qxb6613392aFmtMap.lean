/-
  THE MAP OF TASKS: a map from strings to pointers that the call itself makes: its elements read by 'ptrElem' (a pointer to a block's head reads as the block's number): look-ups and stores by the guide's 'ownsMap'. BESIDE IT: a cell written and written back.
-/
import Derived.Test.Qxb6613392aFmtSel
import Derived.ProofKit
import Derived.WalkSpells
import Derived.Maps.OwnSet
import Derived.Maps.Views
namespace Go.Proofs.Qxb6613392aFmt
open Go.ChangeShapes Go.WideShapes Go.ChangeAt Go.RowKit Go.Maps Go.WideMaps

theorem set_back {w : World} {a : Addr} (u : Value) {v : Value} (h : w.cell? a = some v) : (w.setCell a u).setCell a v = w := by
  have hsp := World.cell?_spot h
  have hh : ((w.setCell a u).setCell a v).heap = w.heap := by
    apply Array.ext_getElem?
    intro i
    simp only [World.setCell, Array.getElem?_modify]
    by_cases hi : a.block = i
    · subst hi
      simp only [if_true]
      simp only [World.cell?, hsp] at h
      cases ho : w.heap[a.block]? with
      | none => rfl
      | some o =>
        rw [ho] at h
        cases o with
        | cells c e f =>
          simp at h
          have hcc : (c.setIfInBounds a.off u).setIfInBounds a.off v = c := by
            apply Array.ext_getElem?
            intro i
            rw [Array.getElem?_setIfInBounds, Array.getElem?_setIfInBounds]
            by_cases hi : a.off = i
            · subst hi
              obtain ⟨hlt, hve⟩ := Array.getElem?_eq_some_iff.1 h
              simp [hlt, hve]
            · simp [hi]
          simp only [Option.map_some, hsp, Option.isSome_none, Bool.false_eq_true, if_false, hcc]
        | _ => rfl
    · simp [hi]
  show ({ w with heap := ((w.setCell a u).setCell a v).heap } : World) = w
  rw [hh]

/-- HOW A POINTER TO A BLOCK's HEAD READS, for the book-keeping alone: the block's number. -/
def ptrElem (v : Value) : Option (DataW Unit × List MemPlace) :=
  match v with
  | .pointer none => some (.nil, [])
  | .pointer (some a) => if a.off = 0 ∧ a.spot = none then some (.lit (.int .i64 a.block), []) else none
  | _ => none

theorem ptrElem_nil : ptrElem (.pointer none) = some (.nil, []) := rfl
theorem ptrElem_some (t : Nat) : ptrElem (.pointer (some ⟨t, 0, none⟩)) = some (.lit (.int .i64 t), []) := by simp [ptrElem]
theorem ptrElem_inv {v : Value} {t : Nat} {ps : List MemPlace} (h : ptrElem v = some (.lit (.int .i64 t), ps)) : v = .pointer (some ⟨t, 0, none⟩) := by
  unfold ptrElem at h
  split at h
  · simp at h
  · rename_i a
    split at h
    · rename_i hc
      simp at h
      obtain ⟨b, o, sp⟩ := a
      simp at hc h
      obtain ⟨rfl, rfl⟩ := hc
      have : b = t := by omega
      rw [this]
    · simp at h
  · simp at h
theorem ptrElem_inv_nil {v : Value} {ps : List MemPlace} (h : ptrElem v = some (.nil, ps)) : v = .pointer none := by
  unfold ptrElem at h
  split at h
  · rfl
  · split at h <;> simp at h
  · simp at h

theorem law9 : Keyed Tryf.prog 9 := string_keyed Tryf.underlying9
theorem zero30 (w : World) : (zeroValue 30).run Tryf.prog w = .ok (.pointer none) w := by kernel_rfl

section
variable {w : World} {bm n : Nat} {D : DataW Unit} {s : ByteArray} {t : Nat}
theorem look_some (h : w.ownsMap Tryf.prog 9 ptrElem bm n D) (hs : s.size ≤ maxLen) (hat : D.atKey (.string s.data.toList) .nil = .lit (.int .i64 t)) :
    (Instr.lookup 40 (.map (some bm)) (.string s) false).run Tryf.prog w = .ok (.pointer (some ⟨t, 0, none⟩)) w := by
  obtain ⟨v, ps, hrun, hv⟩ := h.lookup law9 Tryf.underlying40 (zero30 w) ptrElem_nil (keyOf_string_mk Tryf.underlying9 hs)
  rw [hat] at hv
  rw [hrun, ptrElem_inv hv]
theorem look_none (h : w.ownsMap Tryf.prog 9 ptrElem bm n D) (hs : s.size ≤ maxLen) (hat : D.atKey (.string s.data.toList) .nil = .nil) :
    (Instr.lookup 40 (.map (some bm)) (.string s) false).run Tryf.prog w = .ok (.pointer none) w := by
  obtain ⟨v, ps, hrun, hv⟩ := h.lookup law9 Tryf.underlying40 (zero30 w) ptrElem_nil (keyOf_string_mk Tryf.underlying9 hs)
  rw [hat] at hv
  rw [hrun, ptrElem_inv_nil hv]
theorem look_ok_some (h : w.ownsMap Tryf.prog 9 ptrElem bm n D) (hs : s.size ≤ maxLen) (hat : D.atKey (.string s.data.toList) .nil = .lit (.int .i64 t)) (hhas : Maps.has D (.string s.data.toList) = true) :
    (Instr.lookup 40 (.map (some bm)) (.string s) true).run Tryf.prog w = .ok (.tuple #[.pointer (some ⟨t, 0, none⟩), .bool true]) w := by
  obtain ⟨v, ps, hrun, hv⟩ := h.look_ok law9 Tryf.underlying40 (zero30 w) ptrElem_nil (keyOf_string_mk Tryf.underlying9 hs)
  rw [hat] at hv
  rw [hrun, ptrElem_inv hv, hhas]
end
end Go.Proofs.Qxb6613392aFmt
