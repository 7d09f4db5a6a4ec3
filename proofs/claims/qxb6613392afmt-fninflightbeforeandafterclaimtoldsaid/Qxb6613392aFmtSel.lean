/-
  A SELECT AT A REGION's HEAD, FOR THE KIT's OWN WALK: case k is a receive from a closed, empty channel, no other case can proceed: the machine's one step ('step_lone_sel_recv_shut'), then the region's other operations by 'wpList'. 'Code.wp' speaks of the machine's own steps, so the two fit together as they stand.
-/
import Derived.Test.Qxb6613392aFmtLocks
import Derived.WalkKit
import Derived.Conc.LoneSelectN
import Derived.Conc.LoneCalls
namespace Go.Proofs.Qxb6613392aFmt
open Go.RowKit Go.Conc

/-- The step of an operation that is a communication, in whatever frame: only what it lists hangs on the frame's kind. -/
theorem stepG_comm_any {P : Program} {b : Frame} {a : Act} {k : List Item} {cs : List Frame} {w : World} {ops : Array Oper} {i : Nat} {rest : List Nat} {o : Oper} {cases : Array CommCase} {blocking : Bool} {shape : CommShape} {w' : World} (ho : ops[i]? = some o) (hw : Region.wanted o (yielded ops a.tmps) = true)
    (hr : (execOp a.eval o).run P w = .ok (.comm cases blocking shape) w') :
    ∃ es, stepG P true (G (b.at a (.inRegion ops (i :: rest) :: k)) cs) w = .comm (G (b.at a (.inRegion ops (i :: rest) :: k)) cs) cases blocking shape w' es := by
  rw [stepG_oper ho hw]
  simp only [stepG.apply, Sem.runT_eq, hr, if_true, GStep.after]
  exact ⟨_, rfl⟩

theorem wp_region_sel_shut {P : Program} {id : Nat} {o : Oper} {rest : List Oper} {Q : Exit → Act → World → Prop} {a : Act} {w : World} (hg : o.guard = none)
    {cases : Array CommCase} {blocking : Bool} (hr : (execOp a.eval o).run P w = .ok (.comm cases blocking .select) w)
    {k c cap s r : Nat} {tm : Bool} {z : Value} (hk : cases[k]? = some (rcase c z)) (ho : ∀ (m : Nat) (c' : CommCase), m ≠ k → cases[m]? = some c' → NoWay w c') (hc : w.heap[c]? = some (.chan cap #[] true s r tm))
    (h : wpList P (o :: rest).toArray Q rest (a.put o.dst (commResult cases .select k z false)) w) :
    (Code.region id (o :: rest).toArray false).wp P Q a w := by
  intro b K cs
  have hw : Region.wanted o (yielded (o :: rest).toArray a.tmps) = true := by simp [Region.wanted, hg]
  have ho0 : (o :: rest).toArray[0]? = some o := by simp
  have hrange : List.range (o :: rest).toArray.size = 0 :: List.range' 1 rest.length := by
    rw [List.range_eq_range']
    simp [List.range'_succ]
  obtain ⟨es, hg1⟩ := stepG_comm_any (P := P) (b := b) (k := K) (cs := cs) (w := w) (rest := List.range' 1 rest.length) ho0 hw hr
  have hstep := step_lone_sel_recv_shut hg1 hk ho hc
  rw [Frame.finish_at, ho0] at hstep
  have hl : wpOps P (o :: rest).toArray Q (List.range' 1 rest.length) (a.put o.dst (commResult cases .select k z false)) w := by
    rw [wpOps_eq_wpList rest 1 (fun j => by simp [Nat.add_comm 1 j])]
    exact h
  obtain ⟨e, a', w', hq, harr⟩ := wp_ops _ _ _ hl b K cs
  refine ⟨e, a', w', hq, .of_steps (.head step_region ?_) harr⟩
  rw [hrange]
  exact .one hstep

end Go.Proofs.Qxb6613392aFmt
