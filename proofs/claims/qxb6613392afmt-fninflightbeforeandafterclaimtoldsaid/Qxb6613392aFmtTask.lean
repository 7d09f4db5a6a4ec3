/-
  WALKS: busy, Background's Done, task: the task is there and ready.
-/
import Derived.Test.Qxb6613392aFmtParts
import Derived.Deep.Cut
namespace Go.Proofs.Qxb6613392aFmt
open Go.ChangeShapes Go.WideShapes Go.ChangeAt Go.RowKit Go.Conc Go.MuLone Go.Maps Go.WideMaps

theorem res_r0 (a : Nat) (z v : Value) (ok : Bool) : commResult #[rcase a z] .select ((0 : Nat) : Int) v ok = .tuple #[goInt 0, .bool ok, v] := by
  simp [commResult, rcase, List.zipIdx_cons]

set_option maxHeartbeats 400000 in
theorem busy_free (t c : Nat) (w : World) (h1 : w.cell? ⟨t, 1, none⟩ = some (.chan (some c))) (hc : w.heap[c]? = some (.chan 0 #[] true 0 0 false)) (h5 : w.cell? ⟨t, 5, none⟩ = some (.pointer none)) :
    Calls Tryf.prog 21 #[.pointer (some ⟨t, 0, none⟩)] w fun e w' => e = .returned .nilIface ∧ w' = w := by
  go_enter Tryf.func21, Tryf.ntmps21
  go_upto_region 2 with fail
  refine wp_region_sel_shut (cases := #[rcase c (.agg #[])]) (blocking := false) (k := 0) (c := c) (z := .agg #[]) rfl ?_ rfl ?_ hc ?_
  · simp [go_sem, execOp, rcase, Act.eval]
  · intro m c' hm hc'
    rcases m with _ | m
    · exact absurd rfl hm
    · simp at hc'
  rw [res_r0]
  go_wp2
  go_ret
  exact ⟨rfl, rfl⟩

set_option maxHeartbeats 400000 in
theorem busy_held (t c x : Nat) (fl : Bool) (u1 u2 : TypeId) (x1 x2 : Value) (w : World) (h1 : w.cell? ⟨t, 1, none⟩ = some (.chan (some c))) (hc : w.heap[c]? = some (.chan 0 #[] true 0 0 false)) (h5 : w.cell? ⟨t, 5, none⟩ = some (.pointer (some ⟨x, 0, none⟩)))
    (hx : w.cell? ⟨x, 1, none⟩ = some (.bool fl)) (g1 : w.cell? ⟨1, 0, none⟩ = some (.iface u1 x1)) (g2 : w.cell? ⟨2, 0, none⟩ = some (.iface u2 x2)) :
    Calls Tryf.prog 21 #[.pointer (some ⟨t, 0, none⟩)] w fun e w' => (∃ u y, e = .returned (.iface u y)) ∧ w' = w := by
  go_enter Tryf.func21, Tryf.ntmps21
  go_upto_region 2 with fail
  refine wp_region_sel_shut (cases := #[rcase c (.agg #[])]) (blocking := false) (k := 0) (c := c) (z := .agg #[]) rfl ?_ rfl ?_ hc ?_
  · simp [go_sem, execOp, rcase, Act.eval]
  · intro m c' hm hc'
    rcases m with _ | m
    · exact absurd rfl hm
    · simp at hc'
  rw [res_r0]
  cases fl
  all_goals
    go_wp2
    go_ret
    exact ⟨⟨_, _, rfl⟩, rfl⟩

theorem res_r0nil (a : Nat) (z z' v : Value) (ok : Bool) : commResult #[rcase a z, { chan := .chan none, send := none, zero := z' }] .select ((0 : Nat) : Int) v ok = .tuple #[goInt 0, .bool ok, v, z'] := by
  simp [commResult, rcase, List.zipIdx_cons]

set_option maxHeartbeats 400000 in
theorem done_any (w : World) : Calls Tryf.prog 68 #[.agg #[]] w fun e w' => e = .returned (.chan none) ∧ Below w.heap.size w w' := by
  go_enter Tryf.func68, Tryf.ntmps68
  go_wp2
  go_ret
  exact ⟨rfl, (Below.refl _ _).alloc (Nat.le_refl _) _⟩

theorem method_done (w : World) : (method 320 83 (.agg #[]) "Done").run Tryf.prog w = .ok (68, .agg #[]) w := by kernel_rfl

set_option maxHeartbeats 1000000 in
theorem task_any (M bm t c n : Nat) (D : DataW Unit) (s : ByteArray) (w : World) (hs : s.size ≤ maxLen)
    (m2 : w.cell? ⟨M, 2, none⟩ = some (.int .i32 0)) (f2 : w.frozen? ⟨M, 2, none⟩ = false) (m4 : w.cell? ⟨M, 4, none⟩ = some (.map (some bm))) (m5 : w.cell? ⟨M, 5, none⟩ = some (.bool false))
    (hown : w.ownsMap Tryf.prog 9 ptrElem bm n D) (hat : D.atKey (.string s.data.toList) .nil = .lit (.int .i64 t)) (hhas : Maps.has D (.string s.data.toList) = true)
    (t1 : w.cell? ⟨t, 1, none⟩ = some (.chan (some c))) (t3 : w.cell? ⟨t, 3, none⟩ = some .nilIface) (t4 : w.cell? ⟨t, 4, none⟩ = some (.bool false)) (hc : w.heap[c]? = some (.chan 0 #[] true 0 0 false)) :
    Calls Tryf.prog 18 #[.pointer (some ⟨M, 0, none⟩), .iface 83 (.agg #[]), .string s] w fun e w' => e = .returned (.tuple #[.pointer (some ⟨t, 0, none⟩), .nilIface]) ∧ Below w.heap.size w w' := by
  have hbM : bm ≠ M := by
    intro e
    obtain ⟨es, cl, hb, _⟩ := hown
    subst e
    simp [World.cell?, hb] at m4
  have hown1 := hown.setCell (a := ⟨M, 2, none⟩) hbM (.int .i32 1)
  have hlook := look_ok_some hown1 hs hat hhas
  have q4 : (w.setCell ⟨M, 2, none⟩ (.int .i32 1)).cell? ⟨M, 4, none⟩ = some (.map (some bm)) := (World.cell?_setCell_other w ⟨M, 2, none⟩ ⟨M, 4, none⟩ _ (by simp)).trans m4
  have q5 : (w.setCell ⟨M, 2, none⟩ (.int .i32 1)).cell? ⟨M, 5, none⟩ = some (.bool false) := (World.cell?_setCell_other w ⟨M, 2, none⟩ ⟨M, 5, none⟩ _ (by simp)).trans m5
  have q2 : (w.setCell ⟨M, 2, none⟩ (.int .i32 1)).cell? ⟨M, 2, none⟩ = some (.int .i32 1) := World.cell?_setCell_same w ⟨M, 2, none⟩ _ m2
  have qf : (w.setCell ⟨M, 2, none⟩ (.int .i32 1)).frozen? ⟨M, 2, none⟩ = false := by simp [f2]
  have hback := set_back (w := w) (.int .i32 1) m2
  have hul := unlock_held Tryf.muLib ⟨M, 2, none⟩ _ q2 qf
  rw [hback] at hul
  clear hown hown1 hat hhas hback qf q2
  go_enter Tryf.func18, Tryf.ntmps18
  go_wp2_with fail
  refine wp_loop_rounds 1 ?_
  rw [rounds_succ]
  go_wp2_with fail
  refine (lock_free Tryf.muLib ⟨M, 2, none⟩ _ m2 f2).mono ?_
  rintro e w1 ⟨rfl, rfl⟩
  go_wp2_with fail
  refine hul.mono ?_
  rintro e w2 ⟨rfl, rfl⟩
  clear hul hlook q4 q5
  have hmd := method_done
  go_upto_region 14 with (go_at_call 68; refine (done_any _).mono ?_; rintro e w3 ⟨rfl, bd⟩)
  have hltc : c < w2.heap.size := (Array.getElem?_eq_some_iff.1 hc).1
  have hc3 : w3.heap[c]? = some (.chan 0 #[] true 0 0 false) := (bd.block c hltc).trans hc
  have t33 := (bd.cell (World.block_lt_of_cell? w2 _ t3)).trans t3
  have t43 := (bd.cell (World.block_lt_of_cell? w2 _ t4)).trans t4
  refine wp_region_sel_shut (cases := #[rcase c (.agg #[]), { chan := .chan none, send := none, zero := .agg #[] }]) (blocking := true) (k := 0) (c := c) (z := .agg #[]) rfl ?_ rfl ?_ hc3 ?_
  · simp [go_sem, execOp, rcase, Act.eval]
  · intro m c' hm hc'
    rcases m with _ | _ | m
    · exact absurd rfl hm
    · simp only [List.getElem?_toArray, List.getElem?_cons_succ, List.getElem?_cons_zero, Option.some.injEq] at hc'
      subst hc'
      exact noWay_nil _
    · simp at hc'
  rw [res_r0nil]
  go_wp2
  go_ret2
  exact ⟨rfl, bd⟩

end Go.Proofs.Qxb6613392aFmt
