/-
  THE WALK OF FnLegacyFactoryFunctionsOneAttributeAnywhere: the place lies outside; and: the attribute is not named LegacyFactoryFunction.
-/
import Derived.Test.Qxb6613236aShared
import Derived.Test.Qxb6613236aOneZz
import Derived.Deep.RegionWith
namespace Go.Proofs.Qxb6613236a
open Go.ChangeShapes Go.WideShapes Go.ChangeAt Go.RowKit

theorem mk_take (s : Nat) {n k : Nat} (N : Nat → ByteArray) (h : k ≤ n) : (mk s n N).take k = mk s k N := by
  simp [mk, ← List.map_take, List.take_range, Nat.min_eq_left h]

theorem Ptrs.drewN {w : World} {a : Option Addr} {n : Nat} {B : List Nat} (h : Ptrs w a n B) (q : Nat) : Ptrs (w.drewN q) a n B := h.below (below_drewN (Below.refl _ _) q)
theorem fs_parts (s : Nat) {n k : Nat} (N : Nat → ByteArray) (h : k ≤ n) : fs (mk s k N) ++ fs ((mk s n N).drop k) = fs (mk s n N) := by
  rw [← fs_append, ← mk_take s N h, List.take_append_drop]
theorem fs_ins_no (s x : Nat) {n k : Nat} (N : Nat → ByteArray) {sn : ByteArray} (h : k ≤ n) (hL : isL sn = false) : fs (mk s k N ++ (x, sn) :: (mk s n N).drop k) = fs (mk s n N) := by
  rw [fs_append, ← fs_parts s N h]
  simp [fs, hL]
theorem fs_ins_yes (s x : Nat) {n k : Nat} (N : Nat → ByteArray) {sn : ByteArray} (_h : k ≤ n) (hL : isL sn = true) : fs (mk s k N ++ (x, sn) :: (mk s n N).drop k) = fs (mk s k N) ++ (x, sn) :: fs ((mk s n N).drop k) := by
  rw [fs_append]
  simp [fs, hL]
theorem fs_ins_len (s x : Nat) {n k : Nat} (N : Nat → ByteArray) {sn : ByteArray} (h : k ≤ n) (hL : isL sn = true) : (fs (mk s k N ++ (x, sn) :: (mk s n N).drop k)).length = cnt N n + 1 := by
  rw [fs_ins_yes s x N h hL, ← fs_mk s n N, ← fs_parts s N h]
  simp only [List.length_append, List.length_cons]
  omega

set_option maxHeartbeats 4000000 in
theorem one_out (a : Option Addr) (len cap : Nat) (sn sv : ByteArray) (pos : Int) (N V : Nat → ByteArray) (w : World) (hl : len ≤ 9223372036854775807) (hsn : sn.size ≤ 9223372036854775807) (hsv : sv.size ≤ 9223372036854775807) (hs : Specs w a len N V)
    (hz : ∀ i, i < len → (N i).size ≤ 9223372036854775807 ∧ (V i).size ≤ 9223372036854775807) (hout : pos < 0 ∨ 0 ≤ pos ∧ (len : Int) < pos) :
    Calls Try.prog 4 #[.slice a len cap, .agg #[.string sn, .string sv], .int .i64 pos] w fun e w' => e = .returned (.bool true) ∧ Below w.heap.size w w' := by
  have bel : Below w.heap.size w (w.alloc (.cells #[.string sn, .string sv] 38)) := (Below.refl _ _).alloc (Nat.le_refl _) _
  have hs1 := hs.below bel
  have hzz := zz2_any a len cap sn sv pos N V (w.alloc (.cells #[.string sn, .string sv] 38)) hl hsn hsv hs1 hz
  clear hz
  rcases hout with hout | ⟨hout, hout'⟩
  all_goals
    go_enter Try.func4, Try.ntmps4
    go_wp2_with fail
    refine hzz.mono ?_
    clear hzz
    rintro e w0 ⟨rfl | ⟨rfl, hb, hb1, hb2⟩, b0⟩
    · go_wp2
      go_ret
      exact ⟨rfl, bel.trans (b0.mono bel.size)⟩
    have hs2 := hs1.below b0
    replace bel := bel.trans (b0.mono bel.size)
    clear hl hs1 hs
    obtain ⟨hc, hf⟩ : (w0.cell? ⟨w.heap.size, 0, none⟩ = some (.string sn)) ∧ (w0.cell? ⟨w.heap.size, 0 + 1, none⟩ = some (.string sv)) := ⟨(b0.cell (by simp)).trans (by simp), (b0.cell (by simp)).trans (by simp)⟩
    go_wp2_with fail
    · go_ret
      exact ⟨rfl, bel⟩
    refine (attrBytes_any a len cap _ N V _ hb hs2).mono ?_
    rintro e w1 ⟨⟨t, rfl⟩, q1, hw1⟩
    have b1 : Below w0.heap.size w0 w1 := hw1 ▸ below_drewN (Below.refl _ _) q1
    replace bel := bel.trans (b1.mono bel.size)
    clear hw1
    go_wp2_with fail
    all_goals
      go_ret
      exact ⟨rfl, bel⟩

set_option maxHeartbeats 4000000 in
theorem one_in_no (a : Option Addr) (len cap : Nat) (sn sv : ByteArray) (p : Nat) (N V : Nat → ByteArray) (w : World) (hl : len ≤ 9223372036854775807) (_hcap : len ≤ cap) (_hcm : cap ≤ 9223372036854775807) (hsn : sn.size ≤ 9223372036854775807) (hsv : sv.size ≤ 9223372036854775807) (hs : Specs w a len N V)
    (hz : ∀ i, i < len → (N i).size ≤ 9223372036854775807 ∧ (V i).size ≤ 9223372036854775807) (hp : p ≤ len) (hL : isL sn = false) :
    Calls Try.prog 4 #[.slice a len cap, .agg #[.string sn, .string sv], .int .i64 p] w fun e w' => e = .returned (.bool true) ∧ Below w.heap.size w w' := by
  have bel : Below w.heap.size w (w.alloc (.cells #[.string sn, .string sv] 38)) := (Below.refl _ _).alloc (Nat.le_refl _) _
  have hs1 := hs.below bel
  have hzz := zz2_any a len cap sn sv p N V (w.alloc (.cells #[.string sn, .string sv] 38)) hl hsn hsv hs1 hz
  obtain ⟨i0, hi, hz0, hz1, hz2⟩ := info_parts Try.info40
  have HL : Hid (isL sn = false) := hL
  obtain ⟨k, HK⟩ : ∃ k, Hid (k = cnt N p) := ⟨_, rfl⟩
  clear hz hL
  go_enter Try.func4, Try.ntmps4
  go_wp2_with fail
  refine hzz.mono ?_
  clear hzz
  rintro e w0 ⟨rfl | ⟨rfl, hb, hb1, hb2⟩, b0⟩
  · go_wp2
    go_ret
    exact ⟨rfl, bel.trans (b0.mono bel.size)⟩
  replace hs := hs1.below b0
  replace bel := bel.trans (b0.mono bel.size)
  have cn : w0.cell? ⟨w.heap.size, 0, none⟩ = some (.string sn) := (b0.cell (by simp)).trans (by simp)
  have cv : w0.cell? ⟨w.heap.size, 0 + 1, none⟩ = some (.string sv) := (b0.cell (by simp)).trans (by simp)
  clear hl hs1 b0 hsn hsv
  go_wp2_with fail
  · go_ret
    exact ⟨rfl, bel⟩
  refine (attrBytes_any a len cap _ N V _ hb hs).mono ?_
  rintro e w1 ⟨⟨t, rfl⟩, q1, hw1⟩
  have b1 : Below w0.heap.size w0 w1 := hw1 ▸ below_drewN (Below.refl _ _) q1
  have lt0 := World.block_lt_of_cell? w0 _ cn
  replace hs := hs.below b1
  replace cn := (b1.cell (World.block_lt_of_cell? w0 _ cn)).trans cn
  replace cv := (b1.cell (World.block_lt_of_cell? w0 _ cv)).trans cv
  replace bel := bel.trans (b1.mono bel.size)
  clear hw1 b1 lt0
  go_wp2_with fail
  · go_ret
    exact ⟨rfl, bel⟩
  refine (build_any a len cap N V _ hb hs).mono ?_
  rintro e w3 ⟨rfl, hB⟩
  obtain ⟨pa, na, b2⟩ := built_ptrs hB
  replace hs := hs.below b2
  replace cn := (b2.cell (World.block_lt_of_cell? w1 _ cn)).trans cn
  replace cv := (b2.cell (World.block_lt_of_cell? w1 _ cv)).trans cv
  replace bel := bel.trans (b2.mono bel.size)
  clear hB b2
  generalize w1.heap.size = s2 at *
  have bx : Below w3.heap.size w3 (w3.alloc (.cells #[.string ⟨#[]⟩, .int .i64 0, .int .i64 0, .string sn, .string sv, .slice none 0 0, .slice none 0 0] 44)) := (Below.refl _ _).alloc (Nat.le_refl _) _
  have px := pa.below bx
  have nx : Named (w3.alloc (.cells #[.string ⟨#[]⟩, .int .i64 0, .int .i64 0, .string sn, .string sv, .slice none 0 0, .slice none 0 0] 44)) [(w3.heap.size, sn)] := by
    intro q hq
    simp only [List.mem_singleton] at hq
    subst hq
    exact ⟨by simp, _, heap_alloc_new w3 _⟩
  have nax := na.below bx
  replace hs := hs.below bx
  have cnx := (bx.cell (World.block_lt_of_cell? w3 _ cn)).trans cn
  replace bel := bel.trans (bx.mono bel.size)
  clear pa na bx
  go_wp2_with (at_make; refine wpList_make_own _ rfl _ _ 25 rfl (w3.heap.size + 1) 40 i0 (.pointer none) 1 Try.underlying25 hi hz0 hz1 .i64 .i64 _ (len + 1) rfl rfl (by simp) (by rw [hz2]; omega) (by unfold maxLen; omega) (by simp) ?_)
  clear cn cv
  have HZ : Hid ((w3.alloc (.cells #[.string ⟨#[]⟩, .int .i64 0, .int .i64 0, .string sn, .string sv, .slice none 0 0, .slice none 0 0] 44)).heap.size = w3.heap.size + 1) := World.size_alloc _ _
  generalize w3.heap.size = s3 at *
  generalize (w3.alloc (.cells #[.string ⟨#[]⟩, .int .i64 0, .int .i64 0, .string sn, .string sv, .slice none 0 0, .slice none 0 0] 44)) = w4 at *
  intro w5 o5 gr5
  have b5 : Below w4.heap.size w4 w5 := (Below.refl _ _).grown gr5 (Nat.le_refl _) (by simp)
  have p5 := px.below b5
  have t5 := p5.take hp
  rw [← List.map_take, mk_take s2 N hp] at t5
  go_wp2_with (at_builtin; refine wpList_append_fits _ rfl (.tmp 56) (.tmp 59) 25 rfl (s3 + 1) 40 i0 1 Try.underlying25 hi hz1 (s3 + 1) 0 (len + 1) [] rfl o5 ⟨s2, 0, none⟩ p len ((mk s2 p N).map ptr) rfl (by simp [mk_len]) (ptrs_news t5) (ptrs_one _) (by omega) ?_)
  intro w6 o6 gr6
  have b6 : Below w4.heap.size w4 w6 := b5.grown gr6 b5.size (by rw [HZ.out]; simp)
  clear o5 gr5 p5 t5 b5 gr6
  go_wp2_with (at_builtin; refine wpList_append_fits _ rfl (.tmp 61) (.tmp 63) 25 rfl (s3 + 1) 40 i0 1 Try.underlying25 hi hz1 (s3 + 1) p (len + 1) _ rfl (o6.alloc _) ⟨w6.heap.size, 0, none⟩ 1 1 ([(s3, sn)].map ptr) rfl rfl ?c1 (ptrs_one _) (by omega) ?_)
  case c1 =>
    intro j u hj
    match j, hj with
    | 0, hj => simp [ptr] at hj; subst hj; simp [Addr.add]
  intro w7 o7 gr7
  have b7 : Below w4.heap.size w4 w7 := (b6.alloc b6.size _).grown gr7 (by have := b6.size; simp; omega) (by rw [HZ.out]; simp)
  clear o6 b6 gr7
  replace o7 : w7.ownsRow (s3 + 1) 40 1 (.slice (some ⟨s3 + 1, 0, none⟩) (p + 1) (len + 1)) (p + 1) ((mk s2 p N ++ [(s3, sn)]).map ptr) := by simpa using o7
  have p7 := px.below b7
  have nd : ∀ ao : Option Addr, (¬ len = p → ao = some ⟨s2, 0 + p, none⟩) → ∀ ad : Addr, ao = some ad → ∀ j u, (((mk s2 len N).drop p).map ptr)[j]? = some u → w7.cell? (ad.add j) = some u := by
    intro ao hao ad had
    have h1 := p7.drop hp (Nat.le_refl len) hao
    by_cases e : len = p
    · have : (mk s2 len N).drop p = [] := List.drop_of_length_le (by rw [mk_len]; omega)
      rw [this]
      simp
    · rw [hao e] at h1 had
      obtain rfl := Option.some.inj had
      rw [← List.map_drop] at h1
      exact ptrs_news h1
  go_wp2_with (at_builtin; refine wpList_append_fits_any _ rfl (.tmp 65) (.tmp 68) 25 rfl (s3 + 1) 40 i0 1 Try.underlying25 hi hz1 (s3 + 1) (p + 1) (len + 1) _ rfl o7 _ (len - p) _ (((mk s2 len N).drop p).map ptr) rfl ?c2 ?c3 (nd _ ?c4) (ptrs_one _) (by omega) ?_)
  case c2 => simp [mk_len]
  case inl => 
    have e : len = p := by assumption
    subst e
    intro w8 o8 gr8
    replace o8 : w8.ownsRow (s3 + 1) 40 1 (.slice (some ⟨s3 + 1, 0, none⟩) (len + 1) (len + 1)) (len + 1) ((mk s2 len N ++ (s3, sn) :: (mk s2 len N).drop len).map ptr) := by simpa using o8
    have b8 : Below w4.heap.size w4 w8 := b7.grown gr8 b7.size (by rw [HZ.out]; simp)
    obtain ⟨ax, cx, ex, _, pw⟩ := own_ptrs o8
    simp only [Value.slice.injEq] at ex
    obtain ⟨rfl, _, rfl⟩ := ex
    have pa := px.below b8
    replace hs := hs.below b8
    replace nax := nax.below b8
    have nw : Named w8 (mk s2 len N ++ (s3, sn) :: (mk s2 len N).drop len) := by
      intro r hr
      rcases List.mem_append.1 hr with hr | hr
      · rw [← mk_take s2 N hp] at hr
        exact nax r (List.mem_of_mem_take hr)
      · rcases List.mem_cons.1 hr with rfl | hr
        · exact nx.below b8 _ (by simp)
        · exact nax r (List.mem_of_mem_drop hr)
    replace cnx := (b8.cell (World.block_lt_of_cell? w4 _ cnx)).trans cnx
    replace bel := bel.trans (b8.mono bel.size)
    clear o8 gr8 b7 b8 o7 p7 nd px nx
    have g1 := cnt_le N len
    have hfs : (fs (mk s2 len N ++ (s3, sn) :: (mk s2 len N).drop len)).length = cnt N len := by rw [fs_ins_no s2 s3 N hp HL.out, fs_mk]
    go_wp2_with fail
    refine (lff_boxed _ len len (cnt N len) (mk s2 len N) w8 _ _ _ _ _ _ _ _ _ _ (by omega) pa nax (fs_mk _ _ _)).mono ?_
    rintro e w9 ⟨ra, rca, rfl, hfa, pra, b9⟩
    replace hs := hs.below b9
    replace pa := pa.below b9
    replace nax := nax.below b9
    replace pw := pw.below b9
    replace nw := nw.below b9
    replace cnx := (b9.cell (World.block_lt_of_cell? w8 _ cnx)).trans cnx
    replace bel := bel.trans (b9.mono bel.size)
    clear b9
    go_wp2_with fail
    refine (lff_boxed _ (len + 1) (len + 1) (cnt N len) (mk s2 len N ++ (s3, sn) :: (mk s2 len N).drop len) w9 _ _ _ _ _ _ _ _ _ _ (by omega) pw nw hfs).mono ?_
    rintro e w10 ⟨rb, rcb, rfl, hfb, prb, b10⟩
    have nwx := nw.below b10
    replace hs := hs.below b10
    replace pa := pa.below b10
    replace nax := nax.below b10
    replace pra := pra.below b10
    replace cnx := (b10.cell (World.block_lt_of_cell? w9 _ cnx)).trans cnx
    replace bel := bel.trans (b10.mono bel.size)
    clear b10 pw nw hfs
    go_wp2_with fail
    refine (count_any a len cap N V w10 hb hs).mono ?_
    rintro e w11 ⟨rfl, rfl⟩
    go_wp2_with fail
    refine (named_any ra (cnt N len) rca (fs (mk s2 len N)) w11 (by omega) pra (fun r hr => nax r (List.mem_filter.1 hr).1) (fun r hr => by simpa using (List.mem_filter.1 hr).2)).mono ?_
    rintro e w12 ⟨rfl, rfl⟩
    go_wp2_with fail
    refine (subseq_any ra _ (cnt N len) rca len len _ _ w12 (by omega) (by omega) pra pa (List.filter_sublist.map _) (fun x hx => by
      simp only [List.mem_map] at hx
      obtain ⟨r, hr, rfl⟩ := hx
      exact (nax r hr).2)).mono ?_
    rintro e w13 ⟨rfl, q13, hw13⟩
    have b13 : Below w12.heap.size w12 w13 := hw13 ▸ below_drewN (Below.refl _ _) q13
    clear hw13
    replace hs := hs.below b13
    replace pra := pra.below b13
    replace prb := prb.below b13
    replace cnx := (b13.cell (World.block_lt_of_cell? w12 _ cnx)).trans cnx
    replace bel := bel.trans (b13.mono bel.size)
    clear b13 pa nax nwx
    have hL := HL.out
    unfold isL at hL
    go_wp2_with fail
    rw [fs_ins_no s2 s3 N hp HL.out] at prb
    refine (same_any rb ra (cnt N len) rcb rca _ w13 (by omega) prb pra).mono ?_
    rintro e w14 ⟨rfl, q14, hw14⟩
    have b14 : Below w13.heap.size w13 w14 := hw14 ▸ below_drewN (Below.refl _ _) q14
    clear hw14
    go_wp2
    go_ret
    exact ⟨rfl, bel.trans (b14.mono bel.size)⟩

  case inr => 
    have e1 : p + 1 + (len - p) = len + 1 := by omega
    rw [e1]
    clear e1
    intro w8 o8 gr8
    replace o8 : w8.ownsRow (s3 + 1) 40 1 (.slice (some ⟨s3 + 1, 0, none⟩) (len + 1) (len + 1)) (len + 1) ((mk s2 p N ++ (s3, sn) :: (mk s2 len N).drop p).map ptr) := by simpa using o8
    have b8 : Below w4.heap.size w4 w8 := b7.grown gr8 b7.size (by rw [HZ.out]; simp)
    obtain ⟨ax, cx, ex, _, pw⟩ := own_ptrs o8
    simp only [Value.slice.injEq] at ex
    obtain ⟨rfl, _, rfl⟩ := ex
    have pa := px.below b8
    replace hs := hs.below b8
    replace nax := nax.below b8
    have nw : Named w8 (mk s2 p N ++ (s3, sn) :: (mk s2 len N).drop p) := by
      intro r hr
      rcases List.mem_append.1 hr with hr | hr
      · rw [← mk_take s2 N hp] at hr
        exact nax r (List.mem_of_mem_take hr)
      · rcases List.mem_cons.1 hr with rfl | hr
        · exact nx.below b8 _ (by simp)
        · exact nax r (List.mem_of_mem_drop hr)
    replace cnx := (b8.cell (World.block_lt_of_cell? w4 _ cnx)).trans cnx
    replace bel := bel.trans (b8.mono bel.size)
    clear o8 gr8 b7 b8 o7 p7 nd px nx
    have g1 := cnt_le N len
    have hfs : (fs (mk s2 p N ++ (s3, sn) :: (mk s2 len N).drop p)).length = cnt N len := by rw [fs_ins_no s2 s3 N hp HL.out, fs_mk]
    go_wp2_with fail
    refine (lff_boxed _ len len (cnt N len) (mk s2 len N) w8 _ _ _ _ _ _ _ _ _ _ (by omega) pa nax (fs_mk _ _ _)).mono ?_
    rintro e w9 ⟨ra, rca, rfl, hfa, pra, b9⟩
    replace hs := hs.below b9
    replace pa := pa.below b9
    replace nax := nax.below b9
    replace pw := pw.below b9
    replace nw := nw.below b9
    replace cnx := (b9.cell (World.block_lt_of_cell? w8 _ cnx)).trans cnx
    replace bel := bel.trans (b9.mono bel.size)
    clear b9
    go_wp2_with fail
    refine (lff_boxed _ (len + 1) (len + 1) (cnt N len) (mk s2 p N ++ (s3, sn) :: (mk s2 len N).drop p) w9 _ _ _ _ _ _ _ _ _ _ (by omega) pw nw hfs).mono ?_
    rintro e w10 ⟨rb, rcb, rfl, hfb, prb, b10⟩
    have nwx := nw.below b10
    replace hs := hs.below b10
    replace pa := pa.below b10
    replace nax := nax.below b10
    replace pra := pra.below b10
    replace cnx := (b10.cell (World.block_lt_of_cell? w9 _ cnx)).trans cnx
    replace bel := bel.trans (b10.mono bel.size)
    clear b10 pw nw hfs
    go_wp2_with fail
    refine (count_any a len cap N V w10 hb hs).mono ?_
    rintro e w11 ⟨rfl, rfl⟩
    go_wp2_with fail
    refine (named_any ra (cnt N len) rca (fs (mk s2 len N)) w11 (by omega) pra (fun r hr => nax r (List.mem_filter.1 hr).1) (fun r hr => by simpa using (List.mem_filter.1 hr).2)).mono ?_
    rintro e w12 ⟨rfl, rfl⟩
    go_wp2_with fail
    refine (subseq_any ra _ (cnt N len) rca len len _ _ w12 (by omega) (by omega) pra pa (List.filter_sublist.map _) (fun x hx => by
      simp only [List.mem_map] at hx
      obtain ⟨r, hr, rfl⟩ := hx
      exact (nax r hr).2)).mono ?_
    rintro e w13 ⟨rfl, q13, hw13⟩
    have b13 : Below w12.heap.size w12 w13 := hw13 ▸ below_drewN (Below.refl _ _) q13
    clear hw13
    replace hs := hs.below b13
    replace pra := pra.below b13
    replace prb := prb.below b13
    replace cnx := (b13.cell (World.block_lt_of_cell? w12 _ cnx)).trans cnx
    replace bel := bel.trans (b13.mono bel.size)
    clear b13 pa nax nwx
    have hL := HL.out
    unfold isL at hL
    go_wp2_with fail
    rw [fs_ins_no s2 s3 N hp HL.out] at prb
    refine (same_any rb ra (cnt N len) rcb rca _ w13 (by omega) prb pra).mono ?_
    rintro e w14 ⟨rfl, q14, hw14⟩
    have b14 : Below w13.heap.size w13 w14 := hw14 ▸ below_drewN (Below.refl _ _) q14
    clear hw14
    go_wp2
    go_ret
    exact ⟨rfl, bel.trans (b14.mono bel.size)⟩

end Go.Proofs.Qxb6613236a
