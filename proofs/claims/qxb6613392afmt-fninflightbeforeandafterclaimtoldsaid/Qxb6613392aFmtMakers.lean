/-
  WALKS: ZZClaim, ZZInFlight, the makers.
-/
import Derived.Test.Qxb6613392aFmtClaim
import Derived.Maps.AppendAt
namespace Go.Proofs.Qxb6613392aFmt
open Go.ChangeShapes Go.WideShapes Go.ChangeAt Go.RowKit Go.Conc Go.MuLone Go.Maps Go.WideMaps

set_option maxHeartbeats 400000 in
theorem bg_any (w : World) : Calls Tryf.prog 17 #[] w fun e w' => e = .returned (.iface 83 (.agg #[])) ∧ w' = w := by
  go_enter Tryf.func17, Tryf.ntmps17
  go_wp2
  go_ret
  exact ⟨rfl, rfl⟩

set_option maxHeartbeats 400000 in
theorem zclaim_free (M bm t n x : Nat) (D : DataW Unit) (s : ByteArray) (w : World) (hs : s.size ≤ maxLen) (hM : Mgr w M bm)
    (hown : w.ownsMap Tryf.prog 9 ptrElem bm n D) (hat : D.atKey (.string s.data.toList) .nil = .lit (.int .i64 t)) (hhas : Maps.has D (.string s.data.toList) = true)
    (ht : TaskAt w t s none false) :
    Calls Tryf.prog 14 #[.pointer (some ⟨M, 0, none⟩), .string s, .pointer (some ⟨x, 0, none⟩)] w fun e w' =>
      e = .returned (.tuple #[.pointer (some ⟨t, 0, none⟩), .nilIface]) ∧ ∃ w1, Below w.heap.size w w1 ∧ w' = w1.setCell ⟨t, 5, none⟩ (.pointer (some ⟨x, 0, none⟩)) := by
  have hcl := claim_free M bm t n x D s w hs hM hown hat hhas ht
  go_enter Tryf.func14, Tryf.ntmps14
  go_wp2_with fail
  refine (bg_any _).mono ?_
  rintro e w1 ⟨rfl, rfl⟩
  go_wp2_with fail
  refine hcl.mono ?_
  rintro e w2 ⟨rfl, h2⟩
  go_wp2
  go_ret2
  exact ⟨rfl, h2⟩

set_option maxHeartbeats 400000 in
theorem zclaim_held (M bm t n x e0 : Nat) (fl : Bool) (u1 u2 : TypeId) (y1 y2 : Value) (D : DataW Unit) (s : ByteArray) (w : World) (hs : s.size ≤ maxLen) (hM : Mgr w M bm)
    (hown : w.ownsMap Tryf.prog 9 ptrElem bm n D) (hat : D.atKey (.string s.data.toList) .nil = .lit (.int .i64 t)) (hhas : Maps.has D (.string s.data.toList) = true)
    (ht : TaskAt w t s (some e0) fl) (g1 : w.cell? ⟨1, 0, none⟩ = some (.iface u1 y1)) (g2 : w.cell? ⟨2, 0, none⟩ = some (.iface u2 y2)) :
    Calls Tryf.prog 14 #[.pointer (some ⟨M, 0, none⟩), .string s, .pointer (some ⟨x, 0, none⟩)] w fun e w' =>
      (∃ u y, e = .returned (.tuple #[.pointer (some ⟨t, 0, none⟩), .iface u y])) ∧ Below w.heap.size w w' := by
  have hcl := claim_held M bm t n x e0 fl u1 u2 y1 y2 D s w hs hM hown hat hhas ht g1 g2
  go_enter Tryf.func14, Tryf.ntmps14
  go_wp2_with fail
  refine (bg_any _).mono ?_
  rintro e w1 ⟨rfl, rfl⟩
  go_wp2_with fail
  refine hcl.mono ?_
  rintro e w2 ⟨⟨u, y, rfl⟩, h2⟩
  go_wp2
  go_ret2
  exact ⟨⟨u, y, rfl⟩, h2⟩

set_option maxHeartbeats 400000 in
theorem infl_some (M bm t n : Nat) (x : Option Addr) (D : DataW Unit) (s : ByteArray) (w : World) (hs : s.size ≤ maxLen) (m4 : w.cell? ⟨M, 4, none⟩ = some (.map (some bm)))
    (hown : w.ownsMap Tryf.prog 9 ptrElem bm n D) (hat : D.atKey (.string s.data.toList) .nil = .lit (.int .i64 t)) (t5 : w.cell? ⟨t, 5, none⟩ = some (.pointer x)) :
    Calls Tryf.prog 13 #[.pointer (some ⟨M, 0, none⟩), .string s] w fun e w' => e = .returned (.pointer x) ∧ w' = w := by
  have hlook := look_some hown hs hat
  clear hown hat
  go_enter Tryf.func13, Tryf.ntmps13
  go_wp2
  go_ret
  exact ⟨rfl, rfl⟩

set_option maxHeartbeats 400000 in
theorem infl_none (M bm n : Nat) (D : DataW Unit) (s : ByteArray) (w : World) (hs : s.size ≤ maxLen) (m4 : w.cell? ⟨M, 4, none⟩ = some (.map (some bm)))
    (hown : w.ownsMap Tryf.prog 9 ptrElem bm n D) (hat : D.atKey (.string s.data.toList) .nil = .nil) :
    Calls Tryf.prog 13 #[.pointer (some ⟨M, 0, none⟩), .string s] w fun e w' => e = .returned (.pointer none) ∧ w' = w := by
  have hlook := look_none hown hs hat
  clear hown hat
  go_enter Tryf.func13, Tryf.ntmps13
  go_wp2
  go_ret
  exact ⟨rfl, rfl⟩

set_option maxHeartbeats 400000 in
theorem newM_any (w : World) : Calls Tryf.prog 7 #[.bool false] w fun e w' => e = .returned (.pointer (some ⟨w.heap.size + 1, 0, none⟩)) ∧
    Mgr w' (w.heap.size + 1) w.heap.size ∧ w'.ownsMap Tryf.prog 9 ptrElem w.heap.size 0 (.map []) ∧ Below w.heap.size w w' := by
  have hmm := @run_makeMap Tryf.prog
  go_enter Tryf.func7, Tryf.ntmps7
  go_wp2
  go_ret
  refine ⟨rfl, ⟨by simp, by simp, by simp, by simp⟩, (World.ownsMap_made w Tryf.prog 9 ptrElem).alloc _, ((Below.refl _ _).alloc (Nat.le_refl _) _).alloc (by simp) _⟩

set_option maxHeartbeats 400000 in
theorem noExec_any (w : World) : Calls Tryf.prog 8 #[] w fun e w' => e = .returned (.pointer none) ∧ w' = w := by
  go_enter Tryf.func8, Tryf.ntmps8
  go_wp2
  go_ret
  exact ⟨rfl, rfl⟩

set_option maxHeartbeats 400000 in
theorem newX_any (fl : Bool) (w : World) : Calls Tryf.prog 11 #[.bool fl] w fun e w' => e = .returned (.pointer (some ⟨w.heap.size, 0, none⟩)) ∧ Below w.heap.size w w' ∧ w'.cell? ⟨w.heap.size, 1, none⟩ = some (.bool fl) ∧ w'.heap.size = w.heap.size + 1 ∧ ∃ cs, w'.heap[w.heap.size]? = some (.cells cs 73 (0, 0)) := by
  go_enter Tryf.func11, Tryf.ntmps11
  go_wp2
  go_ret
  exact ⟨rfl, (Below.refl _ _).alloc (Nat.le_refl _) _, by simp, by simp, _, heap_alloc_new w _⟩

set_option maxHeartbeats 400000 in
theorem setX_any (t : Nat) (x y : Option Addr) (w : World) (t5 : w.cell? ⟨t, 5, none⟩ = some (.pointer y)) (tf : w.frozen? ⟨t, 5, none⟩ = false) :
    Calls Tryf.prog 12 #[.pointer (some ⟨t, 0, none⟩), .pointer x] w fun e w' => e = .returned (.tuple #[]) ∧ w' = w.setCell ⟨t, 5, none⟩ (.pointer x) := by
  go_enter Tryf.func12, Tryf.ntmps12
  go_wp2
  go_end0
  exact ⟨rfl, rfl⟩

theorem Tryf.info43 : (Tryf.prog.info? 43).map (fun i => i.bytes) = some 0 := by kernel_rfl
theorem mkChan (w : World) : (Instr.makeChan 52 (.int .i64 0)).run Tryf.prog w = .ok (.chan (some w.heap.size)) (w.alloc (.chan 0 #[] false 0 0 false)) := by
  obtain ⟨i, hi, hb⟩ := Option.map_eq_some_iff.1 Tryf.info43
  exact run_makeChan (P := Tryf.prog) (t := 52) Tryf.underlying52 hi .i64 0 (by omega) (by rw [hb]; simp)
theorem shutChan (w : World) (ats : Array TypeId) (ty : TypeId) : (Builtin.close_ ats ty #[.chan (some w.heap.size)]).run Tryf.prog (w.alloc (.chan 0 #[] false 0 0 false)) = .ok (.tuple #[]) (w.alloc (.chan 0 #[] true 0 0 false)) := by
  rw [run_close_open ats ty (heap_alloc_new w _)]
  congr 1
  show ({ w with heap := (w.heap.push _).setIfInBounds w.heap.size _ } : World) = { w with heap := w.heap.push _ }
  congr 1
  apply Array.ext_getElem?
  intro i
  rw [Array.getElem?_setIfInBounds, Array.getElem?_push, Array.getElem?_push]
  by_cases h : w.heap.size = i
  · subst h; simp
  · have h' : ¬ i = w.heap.size := fun e => h e.symm
    simp [h, h']

set_option maxHeartbeats 400000 in
theorem addT_any (M bm n : Nat) (D : DataW Unit) (s : ByteArray) (w : World) (hs : s.size ≤ maxLen) (hn : n < 1000000) (m4 : w.cell? ⟨M, 4, none⟩ = some (.map (some bm)))
    (hown : w.ownsMap Tryf.prog 9 ptrElem bm n D) :
    Calls Tryf.prog 9 #[.pointer (some ⟨M, 0, none⟩), .string s] w fun e w' => e = .returned (.pointer (some ⟨w.heap.size + 1, 0, none⟩)) ∧
      w'.ownsMap Tryf.prog 9 ptrElem bm (n + 1) (D.put (.string s.data.toList) (.lit (.int .i64 (w.heap.size + 1 : Nat)))) ∧ w.grownBy w' (some bm) ∧ TaskAt w' (w.heap.size + 1) s none false := by
  have hmc := mkChan
  have hsc := shutChan
  have hlt := World.block_lt_of_cell? w _ m4
  have q4 : ∀ o1 o2, ((w.alloc o1).alloc o2).cell? ⟨M, 4, none⟩ = some (.map (some bm)) := fun o1 o2 =>
    ((((Below.refl w.heap.size w).alloc (Nat.le_refl _) o1).alloc (by simp) o2).cell (p := ⟨M, 4, none⟩) hlt).trans m4
  have hlb := hown.lt
  go_enter Tryf.func9, Tryf.ntmps9
  go_wp2_with (at_mapUpdate; refine wpList_mapUpdate_own _ rfl _ _ _ 40 rfl 9 30 law9 Tryf.underlying40 ptrElem bm n D rfl ((hown.alloc _).alloc _) (by unfold maxLen; omega) _ _ _ rfl rfl (keyOf_string_mk Tryf.underlying9 hs) _ [] (ptrElem_some (w.heap.size + 1)) ?_)
  intro w1 hown1 hg1
  have hc : w1.heap[w.heap.size]? = some (.chan 0 #[] true 0 0 false) := by
    rw [hg1.block w.heap.size (by simp; omega) (by simp; omega), Below.heap_alloc _ _ _ (by simp)]
    exact heap_alloc_new w _
  have ht : w1.heap[w.heap.size + 1]? = some (.cells #[.string s, .chan (some w.heap.size), .pointer none, .nilIface, .bool false, .pointer none] 55 (0, 0)) := by
    rw [hg1.block (w.heap.size + 1) (by simp) (by simp; omega)]
    have := heap_alloc_new (w.alloc (.chan 0 #[] true 0 0 false)) (.cells #[.string s, .chan (some w.heap.size), .pointer none, .nilIface, .bool false, .pointer none] 55)
    rwa [World.size_alloc] at this
  have hgr : w.grownBy w1 (some bm) := ((World.grownBy_alloc w _ _).trans (World.grownBy_alloc _ _ _)).trans hg1
  clear hg1 hown q4
  go_wp2
  go_ret
  exact ⟨rfl, hown1, hgr, w.heap.size, .pointer none, ht, hc, fun e he => by cases he⟩

end Go.Proofs.Qxb6613392aFmt
