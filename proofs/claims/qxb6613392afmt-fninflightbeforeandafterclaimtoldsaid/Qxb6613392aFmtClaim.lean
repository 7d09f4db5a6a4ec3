/-
  WALKS: claim, where the task is free and where it is busy.
-/
import Derived.Test.Qxb6613392aFmtTask
namespace Go.Proofs.Qxb6613392aFmt
open Go.ChangeShapes Go.WideShapes Go.ChangeAt Go.RowKit Go.Conc Go.MuLone Go.Maps Go.WideMaps

theorem cell6 {w : World} {t : Nat} {v0 v1 v2 v3 v4 v5 : Value} (h : w.heap[t]? = some (.cells #[v0, v1, v2, v3, v4, v5] 55 (0, 0))) :
    w.cell? ⟨t, 1, none⟩ = some v1 ∧ w.cell? ⟨t, 3, none⟩ = some v3 ∧ w.cell? ⟨t, 4, none⟩ = some v4 ∧ w.cell? ⟨t, 5, none⟩ = some v5 ∧ w.frozen? ⟨t, 5, none⟩ = false := by
  simp [World.cell?, World.frozen?, h]

set_option maxHeartbeats 1000000 in
theorem claim_free (M bm t n x : Nat) (D : DataW Unit) (s : ByteArray) (w : World) (hs : s.size ≤ maxLen) (hM : Mgr w M bm)
    (hown : w.ownsMap Tryf.prog 9 ptrElem bm n D) (hat : D.atKey (.string s.data.toList) .nil = .lit (.int .i64 t)) (hhas : Maps.has D (.string s.data.toList) = true)
    (ht : TaskAt w t s none false) :
    Calls Tryf.prog 16 #[.pointer (some ⟨M, 0, none⟩), .iface 83 (.agg #[]), .string s, .pointer (some ⟨x, 0, none⟩)] w fun e w' =>
      e = .returned (.tuple #[.pointer (some ⟨t, 0, none⟩), .nilIface]) ∧ ∃ w1, Below w.heap.size w w1 ∧ w' = w1.setCell ⟨t, 5, none⟩ (.pointer (some ⟨x, 0, none⟩)) := by
  have hM' := hM
  obtain ⟨m2, f2, m4, m5⟩ := hM
  have ht' := ht
  obtain ⟨c, v2, ht0, hc, _⟩ := ht
  obtain ⟨t1, t3, t4, t5, tf⟩ := cell6 ht0
  have hta := task_any M bm t c n D s w hs m2 f2 m4 m5 hown hat hhas t1 t3 t4 hc
  have htM : t ≠ M := by
    intro e
    subst e
    rw [t4] at m4
    simp at m4
  have heq := eql30_same t
  clear m2 f2 m4 m5 hc ht0 t1 t3 t4 t5 tf
  go_enter Tryf.func16, Tryf.ntmps16
  go_wp2_with fail
  refine wp_loop_rounds 1 ?_
  rw [rounds_succ]
  go_wp2_with fail
  refine hta.mono ?_
  rintro e w1 ⟨rfl, b1⟩
  clear hta
  obtain ⟨m2, f2, m4, m5⟩ := hM'.below b1
  obtain ⟨c, v2, ht0, hc, _⟩ := ht'.below b1
  obtain ⟨t1, t3, t4, t5, tf⟩ := cell6 ht0
  have hown1 := own_below hown b1
  have hbM : bm ≠ M := by
    intro e
    obtain ⟨es, cl, hb, _⟩ := hown1
    subst e
    simp [World.cell?, hb] at m4
  have hlook := look_some (hown1.setCell (a := ⟨M, 2, none⟩) hbM (.int .i32 1)) hs hat
  have q4 : (w1.setCell ⟨M, 2, none⟩ (.int .i32 1)).cell? ⟨M, 4, none⟩ = some (.map (some bm)) := (World.cell?_setCell_other w1 ⟨M, 2, none⟩ ⟨M, 4, none⟩ _ (by simp)).trans m4
  have q5 : (w1.setCell ⟨M, 2, none⟩ (.int .i32 1)).cell? ⟨M, 5, none⟩ = some (.bool false) := (World.cell?_setCell_other w1 ⟨M, 2, none⟩ ⟨M, 5, none⟩ _ (by simp)).trans m5
  have r1 : (w1.setCell ⟨M, 2, none⟩ (.int .i32 1)).cell? ⟨t, 1, none⟩ = some (.chan (some c)) := (World.cell?_setCell_other w1 ⟨M, 2, none⟩ ⟨t, 1, none⟩ _ (by simp)).trans t1
  have r5 : (w1.setCell ⟨M, 2, none⟩ (.int .i32 1)).cell? ⟨t, 5, none⟩ = some (.pointer none) := (World.cell?_setCell_other w1 ⟨M, 2, none⟩ ⟨t, 5, none⟩ _ (by simp)).trans t5
  have rf : (w1.setCell ⟨M, 2, none⟩ (.int .i32 1)).frozen? ⟨t, 5, none⟩ = false := by simp [tf]
  have hcM : M ≠ c := by
    intro e
    subst e
    simp [World.cell?, hc] at m4
  have rc : (w1.setCell ⟨M, 2, none⟩ (.int .i32 1)).heap[c]? = some (.chan 0 #[] true 0 0 false) := (Below.heap_setCell _ _ _ _ (fun e => hcM e.symm)).trans hc
  go_wp2_with fail
  refine (lock_free Tryf.muLib ⟨M, 2, none⟩ _ m2 f2).mono ?_
  rintro e w2 ⟨rfl, rfl⟩
  go_wp2_with fail
  refine (busy_free t c _ r1 rc r5).mono ?_
  rintro e w3 ⟨rfl, rfl⟩
  go_wp2_with fail
  have hu1 : ((w1.setCell ⟨M, 2, none⟩ (.int .i32 1)).setCell ⟨t, 5, none⟩ (.pointer (some ⟨x, 0, none⟩))).cell? ⟨M, 2, none⟩ = some (.int .i32 1) :=
    (World.cell?_setCell_other _ ⟨t, 5, none⟩ ⟨M, 2, none⟩ _ (by simp)).trans (World.cell?_setCell_same w1 ⟨M, 2, none⟩ _ m2)
  have hu2 : ((w1.setCell ⟨M, 2, none⟩ (.int .i32 1)).setCell ⟨t, 5, none⟩ (.pointer (some ⟨x, 0, none⟩))).frozen? ⟨M, 2, none⟩ = false := by simp [f2]
  have hu3 : (((w1.setCell ⟨M, 2, none⟩ (.int .i32 1)).setCell ⟨t, 5, none⟩ (.pointer (some ⟨x, 0, none⟩))).setCell ⟨M, 2, none⟩ (.int .i32 0)) = w1.setCell ⟨t, 5, none⟩ (.pointer (some ⟨x, 0, none⟩)) := by
    rw [set_comm (a := ⟨M, 2, none⟩) (b := ⟨t, 5, none⟩) _ _ (fun e => htM e.symm)]
    exact set_back _ ((World.cell?_setCell_other _ ⟨t, 5, none⟩ ⟨M, 2, none⟩ _ (by simp)).trans m2)
  have hul := unlock_held Tryf.muLib ⟨M, 2, none⟩ _ hu1 hu2
  rw [hu3] at hul
  clear hu1 hu2 hu3
  refine hul.mono ?_
  rintro e w4 ⟨rfl, rfl⟩
  clear hul
  go_wp2
  go_ret2
  exact ⟨rfl, w1, b1, rfl⟩

set_option maxHeartbeats 1000000 in
theorem claim_held (M bm t n x e0 : Nat) (fl : Bool) (u1 u2 : TypeId) (y1 y2 : Value) (D : DataW Unit) (s : ByteArray) (w : World) (hs : s.size ≤ maxLen) (hM : Mgr w M bm)
    (hown : w.ownsMap Tryf.prog 9 ptrElem bm n D) (hat : D.atKey (.string s.data.toList) .nil = .lit (.int .i64 t)) (hhas : Maps.has D (.string s.data.toList) = true)
    (ht : TaskAt w t s (some e0) fl) (g1 : w.cell? ⟨1, 0, none⟩ = some (.iface u1 y1)) (g2 : w.cell? ⟨2, 0, none⟩ = some (.iface u2 y2)) :
    Calls Tryf.prog 16 #[.pointer (some ⟨M, 0, none⟩), .iface 83 (.agg #[]), .string s, .pointer (some ⟨x, 0, none⟩)] w fun e w' =>
      (∃ u y, e = .returned (.tuple #[.pointer (some ⟨t, 0, none⟩), .iface u y])) ∧ Below w.heap.size w w' := by
  have hM' := hM
  obtain ⟨m2, f2, m4, m5⟩ := hM
  have ht' := ht
  obtain ⟨c, v2, ht0, hc, _⟩ := ht
  obtain ⟨t1, t3, t4, t5, tf⟩ := cell6 ht0
  have hta := task_any M bm t c n D s w hs m2 f2 m4 m5 hown hat hhas t1 t3 t4 hc
  have htM : t ≠ M := by
    intro e
    subst e
    rw [t4] at m4
    simp at m4
  have heq := eql30_same t
  clear m2 f2 m4 m5 hc ht0 t1 t3 t4 t5 tf
  go_enter Tryf.func16, Tryf.ntmps16
  go_wp2_with fail
  refine wp_loop_rounds 1 ?_
  rw [rounds_succ]
  go_wp2_with fail
  refine hta.mono ?_
  rintro e w1 ⟨rfl, b1⟩
  clear hta
  obtain ⟨m2, f2, m4, m5⟩ := hM'.below b1
  obtain ⟨c, v2, ht0, hc, hx⟩ := ht'.below b1
  obtain ⟨t1, t3, t4, t5, tf⟩ := cell6 ht0
  replace hx := hx e0 rfl
  replace g1 := (b1.cell (World.block_lt_of_cell? w _ g1)).trans g1
  replace g2 := (b1.cell (World.block_lt_of_cell? w _ g2)).trans g2
  have hown1 := own_below hown b1
  have hbM : bm ≠ M := by
    intro e
    obtain ⟨es, cl, hb, _⟩ := hown1
    subst e
    simp [World.cell?, hb] at m4
  have hlook := look_some (hown1.setCell (a := ⟨M, 2, none⟩) hbM (.int .i32 1)) hs hat
  have q4 : (w1.setCell ⟨M, 2, none⟩ (.int .i32 1)).cell? ⟨M, 4, none⟩ = some (.map (some bm)) := (World.cell?_setCell_other w1 ⟨M, 2, none⟩ ⟨M, 4, none⟩ _ (by simp)).trans m4
  have q5 : (w1.setCell ⟨M, 2, none⟩ (.int .i32 1)).cell? ⟨M, 5, none⟩ = some (.bool false) := (World.cell?_setCell_other w1 ⟨M, 2, none⟩ ⟨M, 5, none⟩ _ (by simp)).trans m5
  have r1 : (w1.setCell ⟨M, 2, none⟩ (.int .i32 1)).cell? ⟨t, 1, none⟩ = some (.chan (some c)) := (World.cell?_setCell_other w1 ⟨M, 2, none⟩ ⟨t, 1, none⟩ _ (by simp)).trans t1
  have r5 : (w1.setCell ⟨M, 2, none⟩ (.int .i32 1)).cell? ⟨t, 5, none⟩ = some (.pointer (some ⟨e0, 0, none⟩)) := (World.cell?_setCell_other w1 ⟨M, 2, none⟩ ⟨t, 5, none⟩ _ (by simp)).trans t5
  have rx : (w1.setCell ⟨M, 2, none⟩ (.int .i32 1)).cell? ⟨e0, 1, none⟩ = some (.bool fl) := (World.cell?_setCell_other w1 ⟨M, 2, none⟩ ⟨e0, 1, none⟩ _ (by simp)).trans hx
  have rg1 : (w1.setCell ⟨M, 2, none⟩ (.int .i32 1)).cell? ⟨1, 0, none⟩ = some (.iface u1 y1) := (World.cell?_setCell_other w1 ⟨M, 2, none⟩ ⟨1, 0, none⟩ _ (by simp)).trans g1
  have rg2 : (w1.setCell ⟨M, 2, none⟩ (.int .i32 1)).cell? ⟨2, 0, none⟩ = some (.iface u2 y2) := (World.cell?_setCell_other w1 ⟨M, 2, none⟩ ⟨2, 0, none⟩ _ (by simp)).trans g2
  have hcM : M ≠ c := by
    intro e
    subst e
    simp [World.cell?, hc] at m4
  have rc : (w1.setCell ⟨M, 2, none⟩ (.int .i32 1)).heap[c]? = some (.chan 0 #[] true 0 0 false) := (Below.heap_setCell _ _ _ _ (fun e => hcM e.symm)).trans hc
  have hu1 : (w1.setCell ⟨M, 2, none⟩ (.int .i32 1)).cell? ⟨M, 2, none⟩ = some (.int .i32 1) := World.cell?_setCell_same w1 ⟨M, 2, none⟩ _ m2
  have hu2 : (w1.setCell ⟨M, 2, none⟩ (.int .i32 1)).frozen? ⟨M, 2, none⟩ = false := by simp [f2]
  have hul := unlock_held Tryf.muLib ⟨M, 2, none⟩ _ hu1 hu2
  rw [set_back _ m2] at hul
  clear hu1 hu2
  go_wp2_with fail
  refine (lock_free Tryf.muLib ⟨M, 2, none⟩ _ m2 f2).mono ?_
  rintro e w2 ⟨rfl, rfl⟩
  go_wp2_with fail
  refine (busy_held t c e0 fl u1 u2 y1 y2 _ r1 rc r5 rx rg1 rg2).mono ?_
  rintro e w3 ⟨⟨u, y, rfl⟩, rfl⟩
  go_wp2_with fail
  refine hul.mono ?_
  rintro e w4 ⟨rfl, rfl⟩
  clear hul
  go_wp2
  go_ret2
  exact ⟨⟨u, y, rfl⟩, b1⟩
end Go.Proofs.Qxb6613392aFmt
