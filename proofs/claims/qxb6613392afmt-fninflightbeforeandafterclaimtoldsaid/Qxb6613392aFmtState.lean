/-
  WHAT HOLDS BEHIND k ROUNDS of the law's loop: of a name s: is it held, by which task, with which execution. No walk here.
-/
import Derived.Test.Qxb6613392aFmtMakers
import Derived.Test.Qxb6613392aFmtSmall
namespace Go.Proofs.Qxb6613392aFmt
open Go.RowKit Go.Maps Go.WideMaps Go.WideShapes

theorem neq_of {a b : ByteArray} (h : (a.toList == b.toList) = false) : a.data.toList ≠ b.data.toList := by
  rw [ByteArray.toList_eq, ByteArray.toList_eq] at h
  simpa using h
theorem eq_of {a b : ByteArray} (h : (a.toList == b.toList) = true) : a = b := by
  rw [ByteArray.toList_eq, ByteArray.toList_eq] at h
  exact bytes_inj (by simpa using h)
theorem beq_self (a : ByteArray) : (a.toList == a.toList) = true := by simp

/-! ### the last place -/
theorem lastI_step (S : Nat → ByteArray) (s : ByteArray) (n : Nat) : lastI S s n ≤ lastI S s (n + 1) := by
  have h3 := lastI_bd S s n
  cases h : (S n).toList == s.toList with
  | true => rw [lastI_yes h]; omega
  | false => rw [lastI_no h]; exact Int.le_refl _
theorem lastI_mono {S : Nat → ByteArray} {s : ByteArray} {k n : Nat} (h : k ≤ n) : lastI S s k ≤ lastI S s n := by
  obtain ⟨d, rfl⟩ : ∃ d, n = k + d := ⟨n - k, by omega⟩
  clear h
  induction d with
  | zero => exact Int.le_refl _
  | succ d ih => exact Int.le_trans ih (lastI_step S s (k + d))
theorem lastI_ge {S : Nat → ByteArray} {s : ByteArray} {k n : Nat} (hk : k < n) (h : ((S k).toList == s.toList) = true) : (k : Int) ≤ lastI S s n := by
  have := lastI_mono (S := S) (s := s) (k := k + 1) (n := n) (by omega)
  rwa [lastI_yes h] at this
theorem lastI_at {S : Nat → ByteArray} {s : ByteArray} {k : Nat} : ∀ {n : Nat}, lastI S s n = k → ((S k).toList == s.toList) = true
  | 0, h => by simp [lastI] at h
  | n + 1, h => by
    unfold lastI at h
    split at h
    · rename_i h1
      obtain rfl : n = k := by omega
      exact h1
    · exact lastI_at h

/-! ### tasks stay -/
theorem chan_setCell {w : World} {c cap s r : Nat} {buf : Array Value} {cl tm : Bool} (a : Addr) (u : Value) (h : w.heap[c]? = some (.chan cap buf cl s r tm)) : (w.setCell a u).heap[c]? = some (.chan cap buf cl s r tm) := by
  simp only [World.setCell, Array.getElem?_modify]
  by_cases e : a.block = c
  · simp [e, h]
  · simp [e, h]

theorem TaskAt.other {w : World} {t t' : Nat} {s : ByteArray} {x : Option Nat} {fl : Bool} (h : TaskAt w t s x fl) (hne : t ≠ t') (u : Value) : TaskAt (w.setCell ⟨t', 5, none⟩ u) t s x fl := by
  obtain ⟨c, v2, h1, h2, h3⟩ := h
  exact ⟨c, v2, (Below.heap_setCell _ _ _ _ hne).trans h1, chan_setCell _ _ h2, fun e he => (World.cell?_setCell_other _ ⟨t', 5, none⟩ ⟨e, 1, none⟩ _ (by simp)).trans (h3 e he)⟩

theorem TaskAt.taken {w : World} {t e : Nat} {s : ByteArray} {fl fl' : Bool} (h : TaskAt w t s none fl) (he : w.cell? ⟨e, 1, none⟩ = some (.bool fl')) : TaskAt (w.setCell ⟨t, 5, none⟩ (.pointer (some ⟨e, 0, none⟩))) t s (some e) fl' := by
  obtain ⟨c, v2, h1, h2, h3⟩ := h
  refine ⟨c, v2, ?_, chan_setCell _ _ h2, fun e' he' => ?_⟩
  · simp [World.setCell, Array.getElem?_modify, h1]
  · cases he'
    exact (World.cell?_setCell_other _ ⟨t, 5, none⟩ ⟨e, 1, none⟩ _ (by simp)).trans he

theorem TaskAt.kept {w w' : World} {t bm : Nat} {s : ByteArray} {x : Option Nat} {fl : Bool} {es : Array MapEntry} {cl : Nat} (h : TaskAt w t s x fl) (hg : w.grownBy w' (some bm)) (hb : w.heap[bm]? = some (.map es cl)) : TaskAt w' t s x fl := by
  obtain ⟨c, v2, h1, h2, h3⟩ := h
  have e1 : t ≠ bm := fun e => by subst e; rw [h1] at hb; cases hb
  have e2 : c ≠ bm := fun e => by subst e; rw [h2] at hb; cases hb
  refine ⟨c, v2, (hg.block t (Array.getElem?_eq_some_iff.1 h1).1 (by simpa using e1)).trans h1, (hg.block c (Array.getElem?_eq_some_iff.1 h2).1 (by simpa using e2)).trans h2, fun e he => ?_⟩
  have e3 : e ≠ bm := fun e' => by subst e'; have := h3 e he; simp [World.cell?, hb] at this
  exact hg.cell (h3 e he) (by simpa using e3)

theorem TaskAt.free {w : World} {t : Nat} {s : ByteArray} {fl : Bool} (h : TaskAt w t s none fl) (fl' : Bool) : TaskAt w t s none fl' := by
  obtain ⟨c, v2, h1, h2, _⟩ := h
  exact ⟨c, v2, h1, h2, fun e he => by cases he⟩

theorem TaskAt.lt {w : World} {t : Nat} {s : ByteArray} {x : Option Nat} {fl : Bool} (h : TaskAt w t s x fl) : t < w.heap.size := by
  obtain ⟨c, v2, h1, _⟩ := h
  exact (Array.getElem?_eq_some_iff.1 h1).1
theorem TaskAt.exec {w : World} {t : Nat} {s : ByteArray} {x : Option Nat} {fl : Bool} (h : TaskAt w t s x fl) : w.cell? ⟨t, 5, none⟩ = some (.pointer (x.map fun e => ⟨e, 0, none⟩)) ∧ w.frozen? ⟨t, 5, none⟩ = false := by
  obtain ⟨c, v2, h1, _⟩ := h
  obtain ⟨_, _, _, h5, h6⟩ := cell6 h1
  exact ⟨h5, h6⟩
theorem TaskAt.name {w : World} {t : Nat} {s s' : ByteArray} {x x' : Option Nat} {fl fl' : Bool} (h : TaskAt w t s x fl) (h' : TaskAt w t s' x' fl') : s = s' := by
  obtain ⟨c, v2, h1, _⟩ := h
  obtain ⟨c', v2', h1', _⟩ := h'
  rw [h1] at h1'
  simp at h1'
  exact h1'.1

theorem Mgr.other {w : World} {M bm t : Nat} (h : Mgr w M bm) (ht : t ≠ M) (u : Value) : Mgr (w.setCell ⟨t, 5, none⟩ u) M bm := by
  obtain ⟨h1, h2, h3, h4⟩ := h
  exact ⟨(World.cell?_setCell_other _ ⟨t, 5, none⟩ ⟨M, 2, none⟩ _ (by simp)).trans h1, by simp [h2], (World.cell?_setCell_other _ ⟨t, 5, none⟩ ⟨M, 4, none⟩ _ (by simp)).trans h3, (World.cell?_setCell_other _ ⟨t, 5, none⟩ ⟨M, 5, none⟩ _ (fun e => ht (congrArg Addr.block e))).trans h4⟩
theorem Mgr.kept {w w' : World} {M bm : Nat} {es : Array MapEntry} {cl : Nat} (h : Mgr w M bm) (hg : w.grownBy w' (some bm)) (hb : w.heap[bm]? = some (.map es cl)) : Mgr w' M bm := by
  obtain ⟨h1, h2, h3, h4⟩ := h
  have e1 : M ≠ bm := fun e => by subst e; simp [World.cell?, hb] at h1
  have hlt := World.block_lt_of_cell? w _ h1
  exact ⟨hg.cell h1 (by simpa using e1), (World.frozen?_of_block (a := ⟨M, 2, none⟩) (hg.block M hlt (by simpa using e1))).trans h2, hg.cell h3 (by simpa using e1), hg.cell h4 (by simpa using e1)⟩
theorem Mgr.not_task {w : World} {M bm t : Nat} {s : ByteArray} {x : Option Nat} {fl : Bool} (h : Mgr w M bm) (ht : TaskAt w t s x fl) : t ≠ M := by
  intro e
  subst e
  obtain ⟨c, v2, h1, _⟩ := ht
  obtain ⟨_, _, t4, _⟩ := cell6 h1
  have := h.2.2.1
  rw [t4] at this
  simp at this

/-! ### of a name -/
def KeyAt (B : Nat) (S : Nat → ByteArray) (Run Can : Nat → Bool) (w : World) (D : DataW Unit) (s : ByteArray) (k : Nat) (x : Option Nat) : Prop :=
  (lastI S s k = -1 ∧ D.atKey (.string s.data.toList) .nil = .nil ∧ Maps.has D (.string s.data.toList) = false ∧ x = none) ∨
  ∃ l t : Nat, B ≤ t ∧ lastI S s k = l ∧ D.atKey (.string s.data.toList) .nil = .lit (.int .i64 t) ∧ Maps.has D (.string s.data.toList) = true ∧ TaskAt w t s x (Can l) ∧ x.isSome = Run l

theorem key_start (B : Nat) (S : Nat → ByteArray) (Run Can : Nat → Bool) (w : World) (s : ByteArray) : KeyAt B S Run Can w (.map []) s 0 none := .inl ⟨rfl, rfl, rfl, rfl⟩

theorem KeyAt.moved {B : Nat} {S : Nat → ByteArray} {Run Can : Nat → Bool} {w w' : World} {D : DataW Unit} {s : ByteArray} {k : Nat} {x : Option Nat} (h : KeyAt B S Run Can w D s k x) (hk : ∀ t s x fl, TaskAt w t s x fl → TaskAt w' t s x fl) : KeyAt B S Run Can w' D s k x := by
  rcases h with h | ⟨l, t, h0, h1, h2, h3, h4, h5⟩
  · exact .inl h
  · exact .inr ⟨l, t, h0, h1, h2, h3, hk _ _ _ _ h4, h5⟩

theorem key_step {B : Nat} {S : Nat → ByteArray} {Run Can : Nat → Bool} {w w' : World} {D : DataW Unit} {s : ByteArray} {k tn : Nat} {x xn : Option Nat} (h : KeyAt B S Run Can w D s k x) (hD : IsMap D)
    (hk : ∀ t s x fl, TaskAt w t s x fl → TaskAt w' t s x fl) (hn : TaskAt w' tn (S k) xn (Can k)) (hr : xn.isSome = Run k) (hB : B ≤ tn) :
    KeyAt B S Run Can w' (D.put (.string (S k).data.toList) (.lit (.int .i64 tn))) s (k + 1) (if ((S k).toList == s.toList) = true then xn else x) := by
  cases hb : (S k).toList == s.toList with
  | true =>
    have e := eq_of hb
    rw [if_pos rfl]
    refine .inr ⟨k, tn, hB, lastI_yes hb, ?_, ?_, ?_, hr⟩
    · rw [e]; exact atKey_put_same hD (by simp [WideAt.IsKeyLit]) _ _
    · rw [e]; exact has_put_same hD (by simp [WideAt.IsKeyLit]) _
    · rw [← e]; exact hn
  | false =>
    have e := neq_of hb
    have e' : Lit.string s.data.toList ≠ Lit.string (S k).data.toList := fun h => e (Lit.string.inj h).symm
    rw [if_neg (by simp)]
    rcases h with ⟨h1, h2, h3, h4⟩ | ⟨l, t, h0, h1, h2, h3, h4, h5⟩
    · exact .inl ⟨(lastI_no hb).trans h1, (atKey_put_other e' _ _).trans h2, (has_put_other e' _).trans h3, h4⟩
    · exact .inr ⟨l, t, h0, (lastI_no hb).trans h1, (atKey_put_other e' _ _).trans h2, (has_put_other e' _).trans h3, hk _ _ _ _ h4, h5⟩

/-- What wantQ holds behind k rounds. -/
def want (S : Nat → ByteArray) (q : ByteArray) (n k : Nat) (x : Option Nat) : Option Nat := if lastI S q k = lastI S q n then x else none
theorem want_start (S : Nat → ByteArray) (q : ByteArray) (n : Nat) : want S q n 0 none = none := by simp [want]
theorem want_end (S : Nat → ByteArray) (q : ByteArray) (n : Nat) (x : Option Nat) : want S q n n x = x := by simp [want]
theorem want_set {S : Nat → ByteArray} {q : ByteArray} {n k : Nat} {x xn : Option Nat} (h : (k : Int) = lastI S q n) : want S q n (k + 1) (if ((S k).toList == q.toList) = true then xn else x) = xn := by
  have hb := lastI_at h.symm
  rw [want, if_pos ((lastI_yes hb).trans h), if_pos hb]
theorem want_keep {S : Nat → ByteArray} {q : ByteArray} {n k : Nat} {x xn : Option Nat} (hk : k < n) (h : (k : Int) ≠ lastI S q n ∨ xn = none) :
    want S q n (k + 1) (if ((S k).toList == q.toList) = true then xn else x) = want S q n k x := by
  have hbd := lastI_bd S q k
  cases hb : (S k).toList == q.toList with
  | true =>
    have hge := lastI_ge hk hb
    rw [if_pos rfl, want, want, lastI_yes hb, if_neg (show ¬ lastI S q k = lastI S q n by omega)]
    rcases h with h | h
    · rw [if_neg h]
    · split
      · exact h
      · rfl
  | false => rw [if_neg (by simp), want, want, lastI_no hb]

end Go.Proofs.Qxb6613392aFmt
