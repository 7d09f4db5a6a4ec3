/-
  WALKS OF THE LEAVES: countLFF, allNamedLFF, samePtrs, subsequenceOf, attrBytes, LegacyFactoryFunctions, buildAttrs.
-/
import Derived.Test.Qxb6613236aPlain
import Derived.Deep.OwnRows
namespace Go.Proofs.Qxb6613236a
open Go.ChangeShapes Go.WideShapes Go.ChangeAt Go.RowKit


set_option maxHeartbeats 400000 in
theorem count_any (a : Option Addr) (len cap : Nat) (N V : Nat → ByteArray) (w : World) (hl : len ≤ 1048576) (hs : Specs w a len N V) :
    Calls Try.prog 9 #[.slice a len cap] w fun e w' => e = .returned (.int .i64 (cnt N len)) ∧ w' = w := by
  rcases hs with rfl | ⟨b, off, rfl, hN⟩
  · go_enter Try.func9, Try.ntmps9
    go_wp2
    refine wp_loop_rounds 1 ?_
    rw [rounds_succ]
    go_wp2
    go_ret
    exact ⟨rfl, rfl⟩
  · go_enter Try.func9, Try.ntmps9
    go_wp2
    go_loop [3, 4] (fun n i => ∃ (k : Nat), k ≤ len ∧ i = .int .i64 k ∧ n = .int .i64 (cnt N k)) (fun _ i => len - (intOf i).toNat)
    case atStart => exact ⟨0, Nat.zero_le _, rfl, rfl⟩
    case round =>
      obtain ⟨k, hk, rfl, rfl⟩ := hrel
      have hck := cnt_le N k
      by_cases hlt : k < len
      · have hn := (hN k hlt).1
        go_wp2
        all_goals
          go_round
          case rel => exact ⟨k + 1, by omega, by go_num, by first | (rw [cnt_yes N k (by assumption)]; go_num) | (rw [cnt_no N k (by assumption)])⟩
          case measure => simp [intOf]; omega
      · have e : k = len := by omega
        subst e
        go_wp2
        go_ret
        exact ⟨rfl, rfl⟩

set_option maxHeartbeats 400000 in
theorem named_any (a : Option Addr) (n cap : Nat) (L : List (Nat × ByteArray)) (w : World) (hl : n ≤ 4194304) (hp : Ptrs w a n (L.map Prod.fst)) (hn : Named w L) (hL : ∀ p ∈ L, isL p.2 = true) :
    Calls Try.prog 10 #[.slice a n cap] w fun e w' => e = .returned (.bool true) ∧ w' = w := by
  obtain ⟨hlen, rfl | ⟨b, off, rfl, hc⟩⟩ := hp
  · go_enter Try.func10, Try.ntmps10
    go_wp2
    refine wp_loop_rounds 1 ?_
    rw [rounds_succ]
    go_wp2
    go_ret
    exact ⟨rfl, rfl⟩
  · have HL : Hid ((L.map Prod.fst).length = n) := hlen
    clear hlen
    go_enter Try.func10, Try.ntmps10
    go_wp2
    go_loop [3] (fun i => ∃ (k : Nat), k ≤ n ∧ i = .int .i64 k) (fun i => n - (intOf i).toNat)
    case atStart => exact ⟨0, Nat.zero_le _, rfl⟩
    case round =>
      obtain ⟨k, hk, rfl⟩ := hrel
      by_cases hlt : k < n
      · obtain ⟨x, s, hx⟩ : ∃ x s, L[k]? = some (x, s) := by
          have hlen := HL.out
          simp at hlen
          exact ⟨L[k].1, L[k].2, by simp [hlen, hlt]⟩
        have c1 := hc k x (by simp [hx])
        have hm : (x, s) ∈ L := List.mem_of_getElem? hx
        have c2 := hn _ hm
        have hs := hL _ hm
        clear hc hn hL hm hx
        unfold isL at hs
        simp only at c2 hs
        go_wp2
        go_round
        case rel => exact ⟨k + 1, by omega, by go_num⟩
        case measure => simp [intOf]; omega
      · go_wp2
        go_ret
        exact ⟨rfl, rfl⟩


set_option maxHeartbeats 400000 in
theorem same_any (a a' : Option Addr) (n cap cap' : Nat) (B : List Nat) (w : World) (hl : n ≤ 4194304) (hp : Ptrs w a n B) (hq : Ptrs w a' n B) :
    Calls Try.prog 12 #[.slice a n cap, .slice a' n cap'] w fun e w' => e = .returned (.bool true) ∧ ∃ q, w' = w.drewN q := by
  obtain ⟨hlen, rfl | ⟨b, off, rfl, hc⟩⟩ := hp
  · go_enter Try.func12, Try.ntmps12
    go_wp2
    refine wp_loop_rounds 1 ?_
    rw [rounds_succ]
    go_wp2
    go_ret
    exact ⟨rfl, 0, rfl⟩
  · obtain ⟨_, rfl | ⟨b', off', rfl, hc'⟩⟩ := hq
    · go_enter Try.func12, Try.ntmps12
      go_wp2
      refine wp_loop_rounds 1 ?_
      rw [rounds_succ]
      go_wp2
      go_ret
      exact ⟨rfl, 0, rfl⟩
    · have HL : Hid (B.length = n) := hlen
      clear hlen
      go_enter Try.func12, Try.ntmps12
      go_wp2
      go_loopw [5] (fun i wr => ∃ (k q : Nat), k ≤ n ∧ i = .int .i64 k ∧ wr = w.drewN q) (fun i _ => n - (intOf i).toNat)
      case atStart => exact ⟨0, 0, Nat.zero_le _, rfl, rfl⟩
      case round =>
        obtain ⟨k, q, hk, rfl, rfl⟩ := hrel
        by_cases hlt : k < n
        · obtain ⟨x, hx⟩ : ∃ x, B[k]? = some x := by
            have hlen := HL.out
            exact ⟨B[k], by simp [hlen, hlt]⟩
          have c1 := hc k x hx
          have c2 := hc' k x hx
          clear hc hc' hx
          have hsm := neq_same x
          go_wp2
          go_quiet (fail)
          go_wp2
          go_roundw
          case rel => exact ⟨k + 1, _, by omega, by go_num, rfl⟩
          case measure => simp [intOf]; omega
        · go_wp2
          go_ret
          exact ⟨rfl, q, rfl⟩

theorem sub_step {B C : List Nat} {i j x y : Nat} (hx : B[i]? = some x) (hy : C[j]? = some y) (hne : x ≠ y) (h : (B.drop i).Sublist (C.drop j)) : (B.drop i).Sublist (C.drop (j + 1)) := by
  obtain ⟨hi, rfl⟩ := List.getElem?_eq_some_iff.1 hx
  obtain ⟨hj, rfl⟩ := List.getElem?_eq_some_iff.1 hy
  rw [List.drop_eq_getElem_cons hi] at h ⊢
  rw [List.drop_eq_getElem_cons hj] at h
  exact (List.sublist_cons_iff.1 h).elim id fun ⟨r, e, _⟩ => absurd (List.cons.inj e).1 hne
theorem sub_hit {B C : List Nat} {i j x : Nat} (hx : B[i]? = some x) (hy : C[j]? = some x) (h : (B.drop i).Sublist (C.drop j)) : (B.drop (i + 1)).Sublist (C.drop (j + 1)) := by
  obtain ⟨hi, rfl⟩ := List.getElem?_eq_some_iff.1 hx
  obtain ⟨hj, he⟩ := List.getElem?_eq_some_iff.1 hy
  rw [List.drop_eq_getElem_cons hi, List.drop_eq_getElem_cons hj, he] at h
  exact List.cons_sublist_cons.1 h
theorem sub_lt {B C : List Nat} {i j n m : Nat} (hB : B.length = n) (hC : C.length = m) (hi : i < n) (h : (B.drop i).Sublist (C.drop j)) : j < m := by
  have := h.length_le
  simp at this
  omega

set_option maxHeartbeats 800000 in
theorem subseq_any (a a' : Option Addr) (n cap m cap' : Nat) (B C : List Nat) (w : World) (hl : n ≤ 4194304) (hl' : m ≤ 4194304) (hp : Ptrs w a n B) (hq : Ptrs w a' m C)
    (hsub : B.Sublist C) (hblk : ∀ x ∈ C, ∃ c, w.heap[x]? = some (.cells c 44 (0, 0))) :
    Calls Try.prog 11 #[.slice a n cap, .slice a' m cap'] w fun e w' => e = .returned (.bool true) ∧ ∃ q, w' = w.drewN q := by
  obtain ⟨hlen, rfl | ⟨b, off, rfl, hc⟩⟩ := hp
  · go_enter Try.func11, Try.ntmps11
    go_wp2
    refine wp_loop_rounds 1 ?_
    rw [rounds_succ]
    go_wp2
    go_ret
    exact ⟨rfl, 0, rfl⟩
  · obtain ⟨hlen', rfl | ⟨b', off', rfl, hc'⟩⟩ := hq
    · have : n = 0 := by have := hsub.length_le; omega
      subst this
      clear hc
      go_enter Try.func11, Try.ntmps11
      go_wp2
      refine wp_loop_rounds 1 ?_
      rw [rounds_succ]
      go_wp2
      go_ret
      exact ⟨rfl, 0, rfl⟩
    · have HL : Hid (B.length = n) := hlen
      have HC : Hid (C.length = m) := hlen'
      have hmem : ∀ x ∈ B, x ∈ C := fun x hx => hsub.subset hx
      have HS : Hid ((B.drop 0).Sublist (C.drop 0)) := by simpa [Hid] using hsub
      clear hlen hlen' hsub
      go_enter Try.func11, Try.ntmps11
      go_wp2
      go_loopw [5, 6] (fun j i wr => ∃ (k l q : Nat), k ≤ n ∧ l ≤ m ∧ i = .int .i64 k ∧ j = .int .i64 l ∧ wr = w.drewN q ∧ Hid ((B.drop k).Sublist (C.drop l))) (fun _ i _ => n - (intOf i).toNat)
      case atStart => exact ⟨0, 0, 0, Nat.zero_le _, Nat.zero_le _, rfl, rfl, rfl, HS⟩
      case round =>
        obtain ⟨k, l, q, hk, hlm, rfl, rfl, rfl, HS1⟩ := hrel
        by_cases hlt : k < n
        · obtain ⟨x, hx⟩ : ∃ x, B[k]? = some x := by
            have hlen := HL.out
            exact ⟨B[k], by simp [hlen, hlt]⟩
          have c1 := hc k x hx
          obtain ⟨cx, hcx⟩ := hblk x (hmem x (List.mem_of_getElem? hx))
          have HX : Hid (B[k]? = some x) := hx
          clear hx
          have hsm := neq_same x
          go_wp2
          go_loopw [5] (fun j wr => ∃ (l q : Nat), l ≤ m ∧ j = .int .i64 l ∧ wr = w.drewN q ∧ Hid ((B.drop k).Sublist (C.drop l))) (fun j _ => m - (intOf j).toNat)
          case atStart => exact ⟨l, q, hlm, rfl, rfl, HS1⟩
          case round =>
            clear HS1 hlm
            obtain ⟨l, q, hlm, rfl, rfl, HS1⟩ := hrel
            have hlm' : l < m := sub_lt HL.out HC.out hlt HS1.out
            obtain ⟨y, hy⟩ : ∃ y, C[l]? = some y := by
              have hlen := HC.out
              exact ⟨C[l], by simp [hlen, hlm']⟩
            have c2 := hc' l y hy
            have HY : Hid (C[l]? = some y) := hy
            by_cases hxy : x = y
            · subst hxy
              clear hy hc hc' hblk hmem
              have hd : decide ((l : Int) < (m : Int)) = true := by simpa using hlm'
              go_wp2
              go_quiet (fail)
              go_wp2
              go_roundw
              case rel => exact ⟨k + 1, l + 1, _, by omega, by omega, by go_num, by go_num, rfl, sub_hit HX.out HY.out HS1.out⟩
              case measure => simp [intOf]; omega
            · obtain ⟨cy, hcy⟩ := hblk y (List.mem_of_getElem? hy)
              have HNE : Hid (x ≠ y) := hxy
              have hot0 : ∀ q, (binOp .neq 40 (.pointer (some ⟨y, 0, none⟩)) (.pointer (some ⟨x, 0, none⟩))).run Try.prog (w.drewN q) = .ok (.bool true) (w.drewN q) :=
                fun q => neq_other (w := w.drewN q) (fun e => hxy e.symm) hcy hcx
              clear hy hc hc' hblk hmem hxy hcy hcx
              have hd : decide ((l : Int) < (m : Int)) = true := by simpa using hlm'
              go_wp2
              go_quiet (fail)
              go_wp2
              go_roundw
              case rel => exact ⟨l + 1, _, by omega, by go_num, rfl, sub_step HX.out HY.out HNE.out HS1.out⟩
              case measure => simp [intOf]; omega
        · go_wp2
          go_ret
          exact ⟨rfl, q, rfl⟩

set_option maxHeartbeats 800000 in
theorem attrBytes_any (a : Option Addr) (len cap : Nat) (d : Int) (N V : Nat → ByteArray) (w : World) (hl : len ≤ 1048576) (hs : Specs w a len N V) :
    Calls Try.prog 6 #[.slice a len cap, .int .i64 d] w fun e w' => (∃ t, e = .returned (.int .i64 t)) ∧ ∃ q, w' = w.drewN q := by
  rcases hs with rfl | ⟨b, off, rfl, hN⟩
  · go_enter Try.func6, Try.ntmps6
    go_wp2
    refine wp_loop_rounds 1 ?_
    rw [rounds_succ]
    go_wp2
    go_ret
    exact ⟨⟨_, rfl⟩, 0, rfl⟩
  · go_enter Try.func6, Try.ntmps6
    go_wp2
    go_loopw [5, 6] (fun t i wr => ∃ (k q : Nat) (s : Int), k ≤ len ∧ i = .int .i64 k ∧ t = .int .i64 s ∧ wr = w.drewN q) (fun _ i _ => len - (intOf i).toNat)
    case atStart => exact ⟨0, 0, 0, Nat.zero_le _, rfl, rfl, rfl⟩
    case round =>
      obtain ⟨k, q, s, hk, rfl, rfl, rfl⟩ := hrel
      by_cases hlt : k < len
      · obtain ⟨c1, c2⟩ := hN k hlt
        go_wp2
        go_quiet (fail)
        go_wp2
        · go_ret
          exact ⟨⟨_, rfl⟩, _, rfl⟩
        · go_roundw
          case rel => exact ⟨k + 1, _, _, by omega, by go_num, rfl, rfl⟩
          case measure => simp [intOf]; omega
      · go_wp2
        go_ret
        exact ⟨⟨_, rfl⟩, q, rfl⟩

/-- Of the first k attributes those named LegacyFactoryFunction. -/
def fl (L : List (Nat × ByteArray)) (k : Nat) : List (Nat × ByteArray) := (L.take k).filter fun p => isL p.2

theorem fl_yes {L : List (Nat × ByteArray)} {k x : Nat} {s : ByteArray} (hx : L[k]? = some (x, s)) (h : isL s = true) : fl L (k + 1) = fl L k ++ [(x, s)] := by
  obtain ⟨hk, e⟩ := List.getElem?_eq_some_iff.1 hx
  simp [fl, List.take_succ_eq_append_getElem hk, e, List.filter_append, h]
theorem fl_no {L : List (Nat × ByteArray)} {k x : Nat} {s : ByteArray} (hx : L[k]? = some (x, s)) (h : isL s = false) : fl L (k + 1) = fl L k := by
  obtain ⟨hk, e⟩ := List.getElem?_eq_some_iff.1 hx
  simp [fl, List.take_succ_eq_append_getElem hk, e, List.filter_append, h]
theorem fl_le (L : List (Nat × ByteArray)) (k : Nat) : (fl L k).length ≤ k := by
  have h1 := List.length_filter_le (fun p : Nat × ByteArray => isL p.2) (L.take k)
  have h2 : (L.take k).length ≤ k := List.length_take_le _ _
  unfold fl
  omega
def ptr (p : Nat × ByteArray) : Value := .pointer (some ⟨p.1, 0, none⟩)

set_option maxHeartbeats 1600000 in
theorem lff_some (d b off n cap : Nat) (L : List (Nat × ByteArray)) (w : World) (hl : n ≤ 4194304) (hlen : L.length = n)
    (hd : w.cell? ⟨d, 3, none⟩ = some (.slice (some ⟨b, off, none⟩) n cap))
    (hc : ∀ i x, (L.map Prod.fst)[i]? = some x → w.cell? ⟨b, off + i, none⟩ = some (.pointer (some ⟨x, 0, none⟩))) (hn : Named w L) :
    Calls Try.prog 8 #[.pointer (some ⟨d, 0, none⟩)] w fun e w' => ∃ v, e = .returned v ∧ w'.ownsRow w.heap.size 40 1 v (fl L n).length ((fl L n).map ptr) ∧ Below w.heap.size w w' := by
  obtain ⟨i0, hi, hz0, hz1, hz2⟩ := info_parts Try.info40
  have HL : Hid (L.length = n) := hlen
  clear hlen
  go_enter Try.func8, Try.ntmps8
  go_wp2
  go_loopw [3, 11] (fun v i wr => ∃ k : Nat, k ≤ n ∧ i = .int .i64 k ∧ wr.ownsRow w.heap.size 40 1 v (fl L k).length ((fl L k).map ptr) ∧ Below w.heap.size w wr) (fun _ i _ => n - (intOf i).toNat)
  case atStart => exact ⟨0, Nat.zero_le _, rfl, World.ownsRow_nil _ _ _ _, Below.refl _ _⟩
  case round =>
    obtain ⟨k, hk, rfl, hown, hnx⟩ := hrel
    have hfl := fl_le L k
    by_cases hlt : k < n
    · obtain ⟨x, s, hx⟩ : ∃ x s, L[k]? = some (x, s) := by
        have hlen := HL.out
        exact ⟨L[k].1, L[k].2, by simp [hlen, hlt]⟩
      have c1 := hc k x (by simp [hx])
      have c1' := (hnx.cell (World.block_lt_of_cell? w _ c1)).trans c1
      obtain ⟨c2, _⟩ := hn _ (List.mem_of_getElem? hx)
      have c2' := (hnx.cell (World.block_lt_of_cell? w _ c2)).trans c2
      have HX : Hid (L[k]? = some (x, s)) := hx
      clear hx c1 c2 hc hn hd
      simp only at c2'
      cases hs : isL s with
      | true =>
        have hs' := hs
        have HS : Hid (isL s = true) := hs
        clear hs
        unfold isL at hs'
        go_wp2_with (at_builtin; refine wpList_append_own _ rfl _ _ 25 rfl w.heap.size 40 i0 (.pointer none) 1 8 Try.underlying25 hi hz0 hz1 hz2 rfl (by decide) _ _ _ rfl (hown.alloc _) ⟨wr.heap.size, 0, none⟩ 1 1 [.pointer (some ⟨x, 0, none⟩)] rfl rfl ?c1 ?c2 ?c3 ?c4 ?c5 ?_)
        case c2 => first | rfl | (intro u hu; simp at hu; subst hu; rfl)
        case c3 => unfold maxLen; omega
        case c4 => omega
        case c5 => have := hnx.size; simp; omega
        · intro v' w1 hown' hgrow _
          have R : w1.ownsRow w.heap.size 40 1 v' (fl L (k + 1)).length ((fl L (k + 1)).map ptr) ∧ Below w.heap.size w w1 := by
            rw [fl_yes HX.out HS.out]
            refine ⟨by simpa [ptr] using hown', ?_⟩
            exact (hnx.alloc hnx.size _).grown hgrow (by have := hnx.size; simp; omega) fun j hj => (hown.lt j hj).1
          clear hown' hgrow hown hnx c1' c2' hs'
          go_wp2
          go_roundw
          case rel => exact ⟨k + 1, by omega, by go_num, R.1, R.2⟩
          case measure => simp [intOf]; omega
      | false =>
        have hs' := hs
        have HS : Hid (isL s = false) := hs
        clear hs
        unfold isL at hs'
        go_wp2
        go_roundw
        case rel => exact ⟨k + 1, by omega, by go_num, by rw [fl_no HX.out HS.out]; exact hown, hnx⟩
        case measure => simp [intOf]; omega
    · have e : k = n := by omega
      subst e
      clear hlt
      go_wp2
      go_ret
      exact ⟨_, rfl, hown, hnx⟩

/-- WHERE buildAttrs STANDS behind k rounds: the row of pointers, the k attributes. -/
def Built (w wr : World) (n k : Nat) (N : Nat → ByteArray) : Prop :=
  wr.heap.size = w.heap.size + 1 + k ∧ wr.rowIs w.heap.size 40 n (fun j => if j < k then .pointer (some ⟨w.heap.size + 1 + j, 0, none⟩) else .pointer none) ∧
  (∀ i, i < k → wr.cell? ⟨w.heap.size + 1 + i, 3, none⟩ = some (.string (N i)) ∧ ∃ c, wr.heap[w.heap.size + 1 + i]? = some (.cells c 44 (0, 0))) ∧ Below w.heap.size w wr

theorem built_start (w : World) (n : Nat) (N : Nat → ByteArray) : Built w (w.alloc (.cells (madeCells #[.pointer none] n) 40)) n 0 N := by
  refine ⟨by simp, (World.rowIs_made w (.pointer none) n 40).congr (by simp), by simp, (Below.refl _ _).alloc (Nat.le_refl _) _⟩

theorem built_step {w wr : World} {n k : Nat} {N : Nat → ByteArray} (x0 x1 x2 x4 x5 x6 : Value) (h : Built w wr n k N) :
    Built w (((wr.alloc (.cells #[x0, x1, x2, .string (N k), x4, x5, x6] 44)).setCell ⟨w.heap.size, k, none⟩ (.pointer (some ⟨wr.heap.size, 0, none⟩))).drew) n (k + 1) N := by
  obtain ⟨hsz, hrow, hat, hnx⟩ := h
  have hs : ∀ i, (((wr.alloc (.cells #[x0, x1, x2, .string (N k), x4, x5, x6] 44)).setCell ⟨w.heap.size, k, none⟩ (.pointer (some ⟨wr.heap.size, 0, none⟩))).drew).heap[w.heap.size + 1 + i]? = (wr.alloc (.cells #[x0, x1, x2, .string (N k), x4, x5, x6] 44)).heap[w.heap.size + 1 + i]? :=
    fun i => Below.heap_setCell _ _ _ _ (by simp; omega)
  refine ⟨?_, ?_, ?_, ?_⟩
  · show ((wr.alloc _).setCell _ _).heap.size = _
    simp [World.setCell]; omega
  · refine World.rowIs.congr ((hrow.alloc _).set k _) fun i hi => ?_
    by_cases h1 : i = k
    · subst h1
      simp [hsz]
    · by_cases h2 : i < k
      · rw [if_neg h1, if_pos h2, if_pos (by omega)]
      · rw [if_neg h1, if_neg h2, if_neg (by omega)]
  · intro i hi
    by_cases h1 : i = k
    · subst h1
      have hb : (wr.alloc (.cells #[x0, x1, x2, .string (N i), x4, x5, x6] 44)).heap[w.heap.size + 1 + i]? = some (.cells #[x0, x1, x2, .string (N i), x4, x5, x6] 44 (0, 0)) := by
        rw [← hsz]; exact heap_alloc_new wr _
      refine ⟨?_, _, (hs i).trans hb⟩
      simp [World.cell?, (hs i).trans hb]
    · obtain ⟨g1, c, g2⟩ := hat i (by omega)
      have hold : (wr.alloc (.cells #[x0, x1, x2, .string (N k), x4, x5, x6] 44)).heap[w.heap.size + 1 + i]? = wr.heap[w.heap.size + 1 + i]? := Below.heap_alloc _ _ _ (by omega)
      refine ⟨?_, c, ((hs i).trans hold).trans g2⟩
      exact (World.cell?_of_block (a := ⟨w.heap.size + 1 + i, 3, none⟩) ((hs i).trans hold)).trans g1
  · exact ((hnx.alloc hnx.size _).setCell (Nat.le_refl _) _).drew

set_option maxHeartbeats 1600000 in
theorem build_some (b off n cap : Nat) (N V : Nat → ByteArray) (w : World) (hl : n ≤ 1048576)
    (hN : ∀ i, i < n → w.cell? ⟨b, off + i * 2, none⟩ = some (.string (N i)) ∧ w.cell? ⟨b, off + i * 2 + 1, none⟩ = some (.string (V i))) :
    Calls Try.prog 7 #[.slice (some ⟨b, off, none⟩) n cap] w fun e w' => e = .returned (.slice (some ⟨w.heap.size, 0, none⟩) n n) ∧ Built w w' n n N := by
  have hmk := run_make_row' (P := Try.prog) 25 40 (.pointer none) 8 Try.underlying25 Try.info40 rfl .i64 .i64 n (by omega) (by omega)
  go_enter Try.func7, Try.ntmps7
  go_wp2
  go_loopw [4] (fun i wr => ∃ k : Nat, k ≤ n ∧ i = .int .i64 k ∧ Built w wr n k N) (fun i _ => n - (intOf i).toNat)
  case atStart => exact ⟨0, Nat.zero_le _, rfl, built_start w n N⟩
  case round =>
    obtain ⟨k, hk, rfl, hB⟩ := hrel
    by_cases hlt : k < n
    · obtain ⟨c1, c2⟩ := hN k hlt
      have HQ : Hid (Built w wr n k N) := hB
      obtain ⟨hsz, hrow, hat, hnx⟩ := hB
      have c1' := (hnx.cell (World.block_lt_of_cell? w _ c1)).trans c1
      have c2' := (hnx.cell (World.block_lt_of_cell? w _ c2)).trans c2
      have q1 : ∀ o, (wr.alloc o).cell? ⟨w.heap.size, k, none⟩ = some (.pointer none) := fun o => by have := (hrow.alloc o).cell hlt; simpa using this
      have q2 : ∀ o, (wr.alloc o).frozen? ⟨w.heap.size, k, none⟩ = false := fun o => (hrow.alloc o).frozen k
      clear hmk hsz hrow hat hnx c1 c2 hN
      go_wp2
      go_region
      go_wp2
      go_roundw
      case rel => exact ⟨k + 1, by omega, by go_num, built_step _ _ _ _ _ _ HQ.out⟩
      case measure => simp [intOf]; omega
    · have e : k = n := by omega
      subst e
      clear hlt
      go_wp2
      go_ret
      exact ⟨rfl, hB⟩

set_option maxHeartbeats 1600000 in
theorem build_none (a : Option Addr) (cap : Nat) (N : Nat → ByteArray) (w : World) :
    Calls Try.prog 7 #[.slice a 0 cap] w fun e w' => e = .returned (.slice (some ⟨w.heap.size, 0, none⟩) 0 0) ∧ Built w w' 0 0 N := by
  have hmk := run_make_row' (P := Try.prog) 25 40 (.pointer none) 8 Try.underlying25 Try.info40 rfl .i64 .i64 0 (by omega) (by omega)
  simp only [Int.natCast_zero] at hmk
  go_enter Try.func7, Try.ntmps7
  go_wp2
  refine wp_loop_rounds 1 ?_
  rw [rounds_succ]
  go_wp2
  go_ret
  exact ⟨rfl, built_start w 0 N⟩

theorem build_any (a : Option Addr) (n cap : Nat) (N V : Nat → ByteArray) (w : World) (hl : n ≤ 1048576) (hs : Specs w a n N V) :
    Calls Try.prog 7 #[.slice a n cap] w fun e w' => e = .returned (.slice (some ⟨w.heap.size, 0, none⟩) n n) ∧ Built w w' n n N := by
  rcases hs with rfl | ⟨b, off, rfl, hN⟩
  · exact build_none a cap N w
  · exact build_some b off n cap N V w hl hN

/-- THE SHAPE OF A SLICE THAT LegacyFactoryFunctions HANDS BACK: nil, or at the head of a row. -/
def Form (a : Option Addr) (m cap : Nat) : Prop := (a = none ∧ m = 0 ∧ cap = 0) ∨ ∃ g, a = some ⟨g, 0, none⟩ ∧ m ≤ cap ∧ cap ≤ 9223372036854775807

/-- The attributes named LegacyFactoryFunction. -/
def fs (L : List (Nat × ByteArray)) : List (Nat × ByteArray) := L.filter fun p => isL p.2

theorem fl_all {L : List (Nat × ByteArray)} {n : Nat} (h : L.length = n) : fl L n = fs L := by
  rw [fl, fs, List.take_of_length_le (by omega)]

theorem own_ptrs {w : World} {base : Nat} {v : Value} {m : Nat} {L : List (Nat × ByteArray)} (h : w.ownsRow base 40 1 v m (L.map ptr)) :
    ∃ a cap, v = .slice a m cap ∧ Form a m cap ∧ Ptrs w a m (L.map Prod.fst) := by
  have hl : L.length = m := by have := h.1; simpa using this
  rcases h.2 with ⟨rfl, rfl⟩ | ⟨g, cap, cur, rfl, hb, hh, hn, hm, hsz, htk⟩
  · exact ⟨none, 0, rfl, .inl ⟨rfl, rfl, rfl⟩, by simpa using hl, .inl rfl⟩
  · refine ⟨some ⟨g, 0, none⟩, cap, rfl, .inr ⟨g, rfl, hn, hm⟩, by simpa using hl, .inr ⟨g, 0, rfl, fun i x hx => ?_⟩⟩
    have := h.cells (g := g) rfl i (.pointer (some ⟨x, 0, none⟩)) (by
      simp only [List.getElem?_map, Option.map_eq_some_iff] at hx ⊢
      obtain ⟨p, hp, rfl⟩ := hx
      exact ⟨p, hp, rfl⟩)
    rwa [Addr.add_lit] at this

set_option maxHeartbeats 400000 in
theorem lff_none (d : Nat) (a : Option Addr) (cap : Nat) (w : World) (hd : w.cell? ⟨d, 3, none⟩ = some (.slice a 0 cap)) :
    Calls Try.prog 8 #[.pointer (some ⟨d, 0, none⟩)] w fun e w' => e = .returned (.slice none 0 0) ∧ w' = w := by
  go_enter Try.func8, Try.ntmps8
  go_wp2
  refine wp_loop_rounds 1 ?_
  rw [rounds_succ]
  go_wp2
  go_ret
  exact ⟨rfl, rfl⟩

theorem lff_any (d : Nat) (a : Option Addr) (n cap m : Nat) (L : List (Nat × ByteArray)) (w : World) (hl : n ≤ 4194304) (hd : w.cell? ⟨d, 3, none⟩ = some (.slice a n cap)) (hp : Ptrs w a n (L.map Prod.fst)) (hn : Named w L) (hm : (fs L).length = m) :
    Calls Try.prog 8 #[.pointer (some ⟨d, 0, none⟩)] w fun e w' => ∃ a' cap', e = .returned (.slice a' m cap') ∧ Form a' m cap' ∧ Ptrs w' a' m ((fs L).map Prod.fst) ∧ Below w.heap.size w w' := by
  obtain ⟨hlen, rfl | ⟨b, off, rfl, hc⟩⟩ := hp
  · have hL : L = [] := by simpa using hlen
    subst hL
    simp only [fs, List.filter_nil, List.length_nil] at hm
    subst hm
    exact (lff_none d a cap w hd).mono fun e w' ⟨he, hw⟩ => ⟨none, 0, he, .inl ⟨rfl, rfl, rfl⟩, ⟨rfl, .inl rfl⟩, hw ▸ Below.refl _ _⟩
  · have hlen' : L.length = n := by simpa using hlen
    refine (lff_some d b off n cap L w hl hlen' hd hc hn).mono fun e w' ⟨v, he, hown, hb⟩ => ?_
    rw [fl_all hlen', hm] at hown
    obtain ⟨a', cap', rfl, h1, h2⟩ := own_ptrs hown
    exact ⟨a', cap', he, h1, h2, hb⟩

end Go.Proofs.Qxb6613236a
