/-
  THE WALK OF FnInFlightBeforeAndAfterClaim, out of the contracts.
-/
import Derived.Test.Qxb6613392aFmtState
namespace Go.Proofs.Qxb6613392aFmt
open Go.ChangeShapes Go.WideShapes Go.ChangeAt Go.RowKit Go.Conc Go.MuLone Go.Maps Go.WideMaps

theorem Strs.below {w w' : World} {a : Option Addr} {n : Nat} {S : Nat → ByteArray} (h : Strs w a n S) (hb : Below w.heap.size w w') : Strs w' a n S := by
  rcases h with h | ⟨b, off, ha, hc⟩
  · exact .inl h
  · exact .inr ⟨b, off, ha, fun i hi => (hb.cell (World.block_lt_of_cell? w _ (hc i hi))).trans (hc i hi)⟩
theorem Bools.below {w w' : World} {a : Option Addr} {n : Nat} {R : Nat → Bool} (h : Bools w a n R) (hb : Below w.heap.size w w') : Bools w' a n R := by
  rcases h with h | ⟨b, off, ha, hc⟩
  · exact .inl h
  · exact .inr ⟨b, off, ha, fun i hi => (hb.cell (World.block_lt_of_cell? w _ (hc i hi))).trans (hc i hi)⟩

/-- WHERE THE LOOP STANDS behind k rounds. -/
def Rel (S : Nat → ByteArray) (Run Can : Nat → Bool) (s q : ByteArray) (n : Nat) (w wr : World) (k : Nat) (y : Option Addr) : Prop :=
  ∃ D xs xq, Mgr wr (w.heap.size + 1) w.heap.size ∧ wr.ownsMap Tryf.prog 9 ptrElem w.heap.size k D ∧ Below w.heap.size w wr ∧
    KeyAt w.heap.size S Run Can wr D s k xs ∧ KeyAt w.heap.size S Run Can wr D q k xq ∧ y = (want S q n k xq).map fun e => ⟨e, 0, none⟩

theorem rel_next {S : Nat → ByteArray} {Run Can : Nat → Bool} {s q : ByteArray} {n : Nat} {w wr w' : World} {k tn : Nat} {D : DataW Unit} {xs xq xn : Option Nat} {y' : Option Addr}
    (hks : KeyAt w.heap.size S Run Can wr D s k xs) (hkq : KeyAt w.heap.size S Run Can wr D q k xq) (hD : IsMap D) (hM : Mgr w' (w.heap.size + 1) w.heap.size)
    (hown : w'.ownsMap Tryf.prog 9 ptrElem w.heap.size (k + 1) (D.put (.string (S k).data.toList) (.lit (.int .i64 tn)))) (hbel : Below w.heap.size w w')
    (hk : ∀ t s x fl, TaskAt wr t s x fl → TaskAt w' t s x fl) (hn : TaskAt w' tn (S k) xn (Can k)) (hr : xn.isSome = Run k) (hB : w.heap.size ≤ tn)
    (hy : y' = (want S q n (k + 1) (if ((S k).toList == q.toList) = true then xn else xq)).map fun e => ⟨e, 0, none⟩) : Rel S Run Can s q n w w' (k + 1) y' :=
  ⟨_, _, _, hM, hown, hbel, key_step hks hD hk hn hr hB, key_step hkq hD hk hn hr hB, hy⟩

theorem infl_key {B : Nat} {S : Nat → ByteArray} {Run Can : Nat → Bool} {w : World} {D : DataW Unit} {q : ByteArray} {k n M bm : Nat} {x : Option Nat} (hq : q.size ≤ maxLen) (hM : Mgr w M bm) (hown : w.ownsMap Tryf.prog 9 ptrElem bm n D) (h : KeyAt B S Run Can w D q k x) :
    Calls Tryf.prog 13 #[.pointer (some ⟨M, 0, none⟩), .string q] w fun e w' => e = .returned (.pointer (x.map fun e => ⟨e, 0, none⟩)) ∧ w' = w := by
  rcases h with ⟨_, h2, _, rfl⟩ | ⟨l, t, _, _, h2, _, h4, _⟩
  · exact infl_none M bm n D q w hq hM.2.2.1 hown h2
  · exact infl_some M bm t n _ D q w hq hM.2.2.1 hown h2 h4.exec.1

set_option maxHeartbeats 4000000 in
theorem law_some (b off : Nat) (n0 cap0 : Nat) (a1 : Option Addr) (n1 cap1 : Nat) (a2 : Option Addr) (n2 cap2 : Nat) (s q : ByteArray) (S : Nat → ByteArray) (R C : Nat → Bool) (u1 u2 : TypeId) (y1 y2 : Value) (w : World)
    (hn0 : n0 ≤ 9223372036854775807) (hn1 : n1 ≤ 9223372036854775807) (hn2 : n2 ≤ 9223372036854775807) (hs : s.size ≤ 9223372036854775807) (hq : q.size ≤ 9223372036854775807) (hz : ∀ i, i < n0 → (S i).size ≤ 9223372036854775807)
    (h0 : ∀ i, i < n0 → w.cell? ⟨b, off + i, none⟩ = some (.string (S i))) (h1 : Bools w a1 n1 R) (h2 : Bools w a2 n2 C) (g1 : w.cell? ⟨1, 0, none⟩ = some (.iface u1 y1)) (g2 : w.cell? ⟨2, 0, none⟩ = some (.iface u2 y2)) :
    Calls Tryf.prog 3 #[.slice (some ⟨b, off, none⟩) n0 cap0, .slice a1 n1 cap1, .slice a2 n2 cap2, .string s, .string q] w fun e w' => e = .returned (.bool true) ∧ Below w.heap.size w w' := by
  have h00 : Strs w (some ⟨b, off, none⟩) n0 S := .inr ⟨b, off, rfl, h0⟩
  go_enter Tryf.func3, Tryf.ntmps3
  go_wp2_with fail
  refine (zz_any _ n0 cap0 a1 n1 cap1 a2 n2 cap2 s q S w hn0 h00).mono ?_
  rintro e w1 ⟨rfl | rfl, rfl⟩
  · go_wp2
    go_ret
    exact ⟨rfl, Below.refl _ _⟩
  go_wp2_with fail
  refine (big_any _ n0 cap0 a1 n1 cap1 a2 n2 cap2 s q S w1 hn0 hn1 hn2 hs hq h00).mono ?_
  rintro e w2 ⟨rfl | ⟨rfl, hb⟩, rfl⟩
  · go_wp2
    go_ret
    exact ⟨rfl, Below.refl _ _⟩
  clear hn0
  go_wp2_with fail
  refine (last_any _ n0 cap0 S s w2 hb h00).mono ?_
  rintro e w3 ⟨rfl, rfl⟩
  by_cases hneg : lastI S s n0 < 0
  · go_wp2
    go_ret
    exact ⟨rfl, Below.refl _ _⟩
  obtain ⟨l, hl⟩ : ∃ l : Nat, lastI S s n0 = l := ⟨(lastI S s n0).toNat, by omega⟩
  rw [hl]
  have HL : Hid (lastI S s n0 = l) := hl
  have hln : l < n0 := by have := lastI_bd S s n0; omega
  clear hl hneg
  go_wp2_with fail
  refine (last_any _ n0 cap0 S q w3 hb h00).mono ?_
  rintro e w4 ⟨rfl, rfl⟩
  obtain ⟨lq, hlq⟩ : ∃ lq : Int, lastI S q n0 = lq := ⟨_, rfl⟩
  rw [hlq]
  have HLQ : Hid (lastI S q n0 = lq) := hlq
  clear hlq
  go_wp2_with fail
  refine (newM_any w4).mono ?_
  rintro e w5 ⟨rfl, hM, hown, b5⟩
  have hrel0 : Rel S (bAt R n1) (bAt C n2) s q n0 w4 w5 0 none := ⟨.map [], none, none, hM, hown, b5, key_start _ _ _ _ _ _, key_start _ _ _ _ _ _, by rw [want_start]; rfl⟩
  clear hM hown b5 h00
  go_wp2_with fail
  refine (noExec_any w5).mono ?_
  rintro e w6 ⟨rfl, rfl⟩
  go_wp2_with fail
  go_loopw [14, 15] (fun v i wr => ∃ (k : Nat) (y : Option Addr), k ≤ n0 ∧ i = .int .i64 k ∧ v = .pointer y ∧ Rel S (bAt R n1) (bAt C n2) s q n0 w4 wr k y) (fun _ i _ => n0 - (intOf i).toNat)
  case atStart => exact ⟨0, none, Nat.zero_le _, rfl, rfl, hrel0⟩
  case round =>
    clear hrel0
    obtain ⟨k, y, hk, rfl, rfl, hrel⟩ := hrel
    by_cases hlt : k < n0
    · obtain ⟨D, xs, xq, hM, hown, bel, hks, hkq, hy⟩ := hrel
      have HY : Hid (y = (want S q n0 k xq).map fun e => ⟨e, 0, none⟩) := hy
      clear hy
      have hck := (bel.cell (World.block_lt_of_cell? w4 _ (h0 k hlt))).trans (h0 k hlt)
      have hsz := hz k hlt
      have hm4 := hM.2.2.1
      go_wp2_with fail
      refine (addT_any _ w4.heap.size k D (S k) wr hsz (by omega) hm4 hown).mono ?_
      rintro e v1 ⟨rfl, hown1, hg1, hT1⟩
      have bel1 : Below w4.heap.size w4 v1 := bel.grown hg1 bel.size (by simp)
      have hD := hown.isMap
      obtain ⟨es, cl, hmap, _⟩ := hown
      have hM1 := hM.kept hg1 hmap
      have hkeep1 : ∀ t s x fl, TaskAt wr t s x fl → TaskAt v1 t s x fl := fun t s x fl h => h.kept hg1 hmap
      clear hmap hg1 hck hm4 hM
      go_wp2_with fail
      refine (boolAt_any a1 n1 cap1 k R v1 hn1 (h1.below bel1)).mono ?_
      rintro e v2 ⟨rfl, rfl⟩
      cases hrun : bAt R n1 k with
      | false =>
        have hr' : Rel S (bAt R n1) (bAt C n2) s q n0 w4 v2 (k + 1) y :=
          rel_next (xn := none) hks hkq hD hM1 hown1 bel1 hkeep1 (hT1.free _) (by rw [hrun]; rfl) (by have := bel.size; omega) (by rw [want_keep hlt (.inr rfl)]; exact HY.out)
        clear hks hkq hD hM1 hown1 hkeep1 hT1
        go_wp2
        go_roundw
        case rel => exact ⟨k + 1, y, by omega, by go_num, rfl, hr'⟩
        case measure => simp [intOf]; omega
      | true =>
        go_wp2_with fail
        refine (boolAt_any a2 n2 cap2 k C v2 hn2 (h2.below bel1)).mono ?_
        rintro e v3 ⟨rfl, rfl⟩
        go_wp2_with fail
        refine (newX_any (bAt C n2 k) v3).mono ?_
        rintro e v4 ⟨rfl, bx, hx1, hxs, _⟩
        have hT2 := hT1.below bx
        obtain ⟨ht5, htf⟩ := hT2.exec
        go_wp2_with fail
        refine (setX_any (wr.heap.size + 1) (some ⟨v3.heap.size, 0, none⟩) none v4 ht5 htf).mono ?_
        rintro e v5 ⟨rfl, rfl⟩
        have htM := hM1.not_task hT1
        have hM5 := (hM1.below bx).other htM (.pointer (some ⟨v3.heap.size, 0, none⟩))
        have hbt : w4.heap.size ≠ wr.heap.size + 1 := by have := bel.size; omega
        have hown5 := (own_below hown1 bx).setCell (a := ⟨wr.heap.size + 1, 5, none⟩) hbt (.pointer (some ⟨v3.heap.size, 0, none⟩))
        have bel5 : Below w4.heap.size w4 (v4.setCell ⟨wr.heap.size + 1, 5, none⟩ (.pointer (some ⟨v3.heap.size, 0, none⟩))) := (bel1.trans (bx.mono bel1.size)).setCell (by have := bel.size; simp; omega) _
        have hkeep5 : ∀ t s x fl, TaskAt wr t s x fl → TaskAt (v4.setCell ⟨wr.heap.size + 1, 5, none⟩ (.pointer (some ⟨v3.heap.size, 0, none⟩))) t s x fl := fun t s x fl h =>
          ((hkeep1 t s x fl h).below bx).other (by have := h.lt; omega) _
        have hT5 := hT2.taken hx1
        have hr' : ∀ y', y' = (want S q n0 (k + 1) (if ((S k).toList == q.toList) = true then some v3.heap.size else xq)).map (fun e => (⟨e, 0, none⟩ : Addr)) → Rel S (bAt R n1) (bAt C n2) s q n0 w4 (v4.setCell ⟨wr.heap.size + 1, 5, none⟩ (.pointer (some ⟨v3.heap.size, 0, none⟩))) (k + 1) y' :=
          fun y' hy' => rel_next (xn := some v3.heap.size) hks hkq hD hM5 hown5 bel5 hkeep5 hT5 (by rw [hrun]; rfl) (by have := bel.size; omega) hy'
        clear hks hkq hD hM1 hown1 hkeep1 hT1 hT2 hx1 hxs ht5 htf hM5 hown5 bel5 hkeep5 hT5 bx bel1
        by_cases hkq : (k : Int) = lq
        · have hb1 : ((k : Int) == lq) = true := by simpa using hkq
          have hr2 := hr' (some ⟨v3.heap.size, 0, none⟩) (by rw [want_set (hkq.trans HLQ.out.symm)]; rfl)
          clear hr' hkq
          go_wp2
          go_roundw
          case rel => exact ⟨k + 1, _, by omega, by go_num, rfl, hr2⟩
          case measure => simp [intOf]; omega
        · have hb1 : ((k : Int) == lq) = false := by simpa using hkq
          have hr2 := hr' y (by rw [want_keep hlt (.inl (fun e => hkq (e.trans HLQ.out)))]; exact HY.out)
          clear hr' hkq
          go_wp2
          go_roundw
          case rel => exact ⟨k + 1, _, by omega, by go_num, rfl, hr2⟩
          case measure => simp [intOf]; omega
    · obtain rfl : k = n0 := by omega
      clear hlt hk
      obtain ⟨D, xs, xq, hM, hown, bel, hks, hkq, hy⟩ := hrel
      rw [want_end] at hy
      rcases hks with ⟨hk1, _⟩ | ⟨l', t, hbt0, hk1, hat, hhas, hT, hrn⟩
      · have := HL.out
        omega
      obtain rfl : l' = l := by have := HL.out; omega
      have hsame := neq28_same
      have hsame2 := eql28_same
      rw [hy]
      clear hy hk1
      go_wp2_with fail
      refine (infl_key hq hM hown hkq).mono ?_
      rintro e v1 ⟨rfl, rfl⟩
      go_wp2_with fail
      refine (newX_any false v1).mono ?_
      rintro e v2 ⟨rfl, bx, _⟩
      replace hM := hM.below bx
      replace hown := own_below hown bx
      replace hkq := hkq.moved (fun t s x fl h => h.below bx)
      replace hT := hT.below bx
      have b2 := bel.trans (bx.mono bel.size)
      replace g1 := (b2.cell (World.block_lt_of_cell? w4 _ g1)).trans g1
      replace g2 := (b2.cell (World.block_lt_of_cell? w4 _ g2)).trans g2
      clear bel bx
      generalize v1.heap.size = xb at *
      go_wp2_with fail
      cases hrun : bAt R n1 l' with
      | true =>
        obtain ⟨e0, rfl⟩ : ∃ e0, xs = some e0 := by
          rw [hrun] at hrn
          exact Option.isSome_iff_exists.1 hrn
        refine (zclaim_held _ _ t _ xb e0 _ u1 u2 y1 y2 D s v2 hs hM hown hat hhas hT g1 g2).mono ?_
        rintro e v3 ⟨⟨u, yy, rfl⟩, b3⟩
        replace hM := hM.below b3
        replace hown := own_below hown b3
        replace hkq := hkq.moved (fun t s x fl h => h.below b3)
        replace b2 := b2.trans (b3.mono b2.size)
        clear b3 hT hat hhas g1 g2
        go_wp2_with fail
        refine (infl_key hq hM hown hkq).mono ?_
        rintro e v4 ⟨rfl, rfl⟩
        go_wp2_with fail
        refine (boolAt_any a1 n1 cap1 l' R v4 hn1 (h1.below b2)).mono ?_
        rintro e v5 ⟨rfl, rfl⟩
        clear hM hown hkq
        rcases xq with _ | e1
        all_goals
          simp only [Option.map_none, Option.map_some]
          go_wp2
          all_goals
            go_ret
            exact ⟨rfl, b2⟩
      | false =>
        obtain rfl : xs = none := by
          rw [hrun] at hrn
          simpa using hrn
        refine (zclaim_free _ _ t _ xb D s v2 hs hM hown hat hhas (hT.free _)).mono ?_
        rintro e v3 ⟨rfl, v2', b3, rfl⟩
        replace hM := hM.below b3
        replace hown := own_below hown b3
        replace hkq := hkq.moved (fun t s x fl h => h.below b3)
        replace hT := hT.below b3
        replace b2 := b2.trans (b3.mono b2.size)
        clear b3 hhas g1 g2
        have htM := hM.not_task hT
        have hbt : w4.heap.size ≠ t := by
          intro e
          obtain ⟨es, cl, hb, _⟩ := hown
          obtain ⟨c, v2, h1, _⟩ := hT
          subst e
          rw [h1] at hb
          cases hb
        have hM4 := hM.other htM (.pointer (some ⟨xb, 0, none⟩))
        have hown4 := hown.setCell (a := ⟨t, 5, none⟩) hbt (.pointer (some ⟨xb, 0, none⟩))
        have ht5 : (v2'.setCell ⟨t, 5, none⟩ (.pointer (some ⟨xb, 0, none⟩))).cell? ⟨t, 5, none⟩ = some (.pointer (some ⟨xb, 0, none⟩)) := World.cell?_setCell_same v2' ⟨t, 5, none⟩ _ hT.exec.1
        have b4 : Below w4.heap.size w4 (v2'.setCell ⟨t, 5, none⟩ (.pointer (some ⟨xb, 0, none⟩))) := b2.setCell hbt0 _
        cases hqs : q.toList == s.toList with
        | true =>
          have hatq : D.atKey (.string q.data.toList) .nil = .lit (.int .i64 t) := by rw [eq_of hqs]; exact hat
          go_wp2_with fail
          refine (infl_some _ w4.heap.size t _ (some ⟨xb, 0, none⟩) D q _ hq hM4.2.2.1 hown4 hatq ht5).mono ?_
          rintro e v4 ⟨rfl, rfl⟩
          go_wp2_with fail
          refine (boolAt_any a1 n1 cap1 l' R _ hn1 (h1.below b4)).mono ?_
          rintro e v5 ⟨rfl, rfl⟩
          clear hM hown hkq hM4 hown4 hT ht5 hat hatq
          rcases xq with _ | e1
          all_goals
            simp only [Option.map_none, Option.map_some]
            go_wp2
            go_ret
            exact ⟨rfl, b4⟩
        | false =>
          have hne := neq_of hqs
          have hkq4 : KeyAt w4.heap.size S (bAt R n1) (bAt C n2) (v2'.setCell ⟨t, 5, none⟩ (.pointer (some ⟨xb, 0, none⟩))) D q k xq := by
            rcases hkq with h | ⟨l2, t2, h0, h1, h2, h3, h4, h5⟩
            · exact .inl h
            · refine .inr ⟨l2, t2, h0, h1, h2, h3, h4.other (fun e' => ?_) _, h5⟩
              subst e'
              exact hne (congrArg (fun x : ByteArray => x.data.toList) (h4.name hT))
          go_wp2_with fail
          refine (infl_key hq hM4 hown4 hkq4).mono ?_
          rintro e v4 ⟨rfl, rfl⟩
          go_wp2_with fail
          refine (boolAt_any a1 n1 cap1 l' R _ hn1 (h1.below b4)).mono ?_
          rintro e v5 ⟨rfl, rfl⟩
          clear hM hown hkq hM4 hown4 hT hne ht5 hkq4 hat
          rcases xq with _ | e1
          all_goals
            simp only [Option.map_none, Option.map_some]
            go_wp2
            go_ret
            exact ⟨rfl, b4⟩

set_option maxHeartbeats 1000000 in
theorem law_none (a0 : Option Addr) (n0 cap0 : Nat) (a1 : Option Addr) (n1 cap1 : Nat) (a2 : Option Addr) (n2 cap2 : Nat) (s q : ByteArray) (S : Nat → ByteArray) (w : World)
    (hn0 : n0 < 1) (hn1 : n1 ≤ 9223372036854775807) (hn2 : n2 ≤ 9223372036854775807) (hs : s.size ≤ 9223372036854775807) (hq : q.size ≤ 9223372036854775807) :
    Calls Tryf.prog 3 #[.slice a0 n0 cap0, .slice a1 n1 cap1, .slice a2 n2 cap2, .string s, .string q] w fun e w' => e = .returned (.bool true) ∧ Below w.heap.size w w' := by
  have h00 : Strs w a0 n0 S := .inl hn0
  have hneg : lastI S s n0 < 0 := by have := lastI_bd S s n0; omega
  go_enter Tryf.func3, Tryf.ntmps3
  go_wp2_with fail
  refine (zz_any _ n0 cap0 a1 n1 cap1 a2 n2 cap2 s q S w (by omega) h00).mono ?_
  rintro e w1 ⟨rfl | rfl, rfl⟩
  · go_wp2
    go_ret
    exact ⟨rfl, Below.refl _ _⟩
  go_wp2_with fail
  refine (big_any _ n0 cap0 a1 n1 cap1 a2 n2 cap2 s q S w1 (by omega) hn1 hn2 hs hq h00).mono ?_
  rintro e w2 ⟨rfl | ⟨rfl, hb⟩, rfl⟩
  · go_wp2
    go_ret
    exact ⟨rfl, Below.refl _ _⟩
  go_wp2_with fail
  refine (last_any _ n0 cap0 S s w2 hb h00).mono ?_
  rintro e w3 ⟨rfl, rfl⟩
  go_wp2
  go_ret
  exact ⟨rfl, Below.refl _ _⟩

theorem law_any (a0 : Option Addr) (n0 cap0 : Nat) (a1 : Option Addr) (n1 cap1 : Nat) (a2 : Option Addr) (n2 cap2 : Nat) (s q : ByteArray) (S : Nat → ByteArray) (R C : Nat → Bool) (u1 u2 : TypeId) (y1 y2 : Value) (w : World)
    (hn0 : n0 ≤ 9223372036854775807) (hn1 : n1 ≤ 9223372036854775807) (hn2 : n2 ≤ 9223372036854775807) (hs : s.size ≤ 9223372036854775807) (hq : q.size ≤ 9223372036854775807) (hz : ∀ i, i < n0 → (S i).size ≤ 9223372036854775807)
    (h0 : Strs w a0 n0 S) (h1 : Bools w a1 n1 R) (h2 : Bools w a2 n2 C) (g1 : w.cell? ⟨1, 0, none⟩ = some (.iface u1 y1)) (g2 : w.cell? ⟨2, 0, none⟩ = some (.iface u2 y2)) :
    Calls Tryf.prog 3 #[.slice a0 n0 cap0, .slice a1 n1 cap1, .slice a2 n2 cap2, .string s, .string q] w fun e w' => e = .returned (.bool true) ∧ Below w.heap.size w w' := by
  rcases h0 with h | ⟨b, off, rfl, hc⟩
  · exact law_none a0 n0 cap0 a1 n1 cap1 a2 n2 cap2 s q S w h hn1 hn2 hs hq
  · exact law_some b off n0 cap0 a1 n1 cap1 a2 n2 cap2 s q S R C u1 u2 y1 y2 w hn0 hn1 hn2 hs hq hz hc h1 h2 g1 g2

end Go.Proofs.Qxb6613392aFmt
