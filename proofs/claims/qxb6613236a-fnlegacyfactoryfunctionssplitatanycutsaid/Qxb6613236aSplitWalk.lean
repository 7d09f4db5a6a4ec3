/-
  THE WALK OF FnLegacyFactoryFunctionsSplitAtAnyCut, out of the contracts.
-/
import Derived.Test.Qxb6613236aShared
import Derived.Test.Qxb6613236aSplitZz
namespace Go.Proofs.Qxb6613236a
open Go.ChangeShapes Go.WideShapes Go.ChangeAt Go.RowKit

set_option maxHeartbeats 4000000 in
theorem split_walk (a : Option Addr) (len cap : Nat) (a' : Option Addr) (len' cap' : Nat) (N V N' V' : Nat → ByteArray) (w : World) (hl : len ≤ 9223372036854775807) (hl' : len' ≤ 9223372036854775807) (hs : Specs w a len N V) (hs' : Specs w a' len' N' V')
    (hz : ∀ i, i < len → (N i).size ≤ 9223372036854775807 ∧ (V i).size ≤ 9223372036854775807) (hz' : ∀ i, i < len' → (N' i).size ≤ 9223372036854775807 ∧ (V' i).size ≤ 9223372036854775807) :
    Calls Try.prog 3 #[.slice a len cap, .slice a' len' cap'] w fun e w' => e = .returned (.bool true) ∧ Below w.heap.size w w' := by
  obtain ⟨i0, hi, hz0, hz1, hz2⟩ := info_parts Try.info40
  have hzz := zz_any a len cap a' len' cap' N V N' V' w hl hl' hs hs' hz hz'
  clear hz hz'
  go_enter Try.func3, Try.ntmps3
  go_wp2_with fail
  refine hzz.mono ?_
  clear hzz
  rintro e w0 ⟨rfl | ⟨rfl, hb, hb'⟩, rfl⟩
  · go_wp2
    go_ret
    exact ⟨rfl, Below.refl _ _⟩
  clear hl hl'
  have g1 := cnt_le N len
  have g2 := cnt_le N' len'
  go_wp2_with fail
  refine (attrBytes_any a len cap _ N V _ hb hs).mono ?_
  rintro e w1 ⟨⟨t, rfl⟩, q1, hw1⟩
  have b1 : Below w0.heap.size w0 w1 := hw1 ▸ below_drewN (Below.refl _ _) q1
  replace hs := hs.below b1
  replace hs' := hs'.below b1
  clear hw1
  go_wp2_with fail
  · go_ret
    exact ⟨rfl, b1⟩
  refine (attrBytes_any a' len' cap' _ N' V' _ hb' hs').mono ?_
  rintro e w2 ⟨⟨t2, rfl⟩, q2, hw2⟩
  have b2 : Below w1.heap.size w1 w2 := hw2 ▸ below_drewN (Below.refl _ _) q2
  replace hs := hs.below b2
  replace hs' := hs'.below b2
  replace b1 := b1.trans (b2.mono b1.size)
  clear hw2 b2
  go_wp2_with fail
  · go_ret
    exact ⟨rfl, b1⟩
  refine (build_any a len cap N V _ hb hs).mono ?_
  rintro e w3 ⟨rfl, hB⟩
  obtain ⟨pa, na, b2⟩ := built_ptrs hB
  replace hs := hs.below b2
  replace hs' := hs'.below b2
  replace b1 := b1.trans (b2.mono b1.size)
  clear hB b2
  generalize w2.heap.size = s2 at *
  go_wp2_with fail
  refine (build_any a' len' cap' N' V' _ hb' hs').mono ?_
  rintro e w4 ⟨rfl, hB⟩
  obtain ⟨pb, nb, b2⟩ := built_ptrs hB
  replace hs := hs.below b2
  replace hs' := hs'.below b2
  replace pa := pa.below b2
  replace na := na.below b2
  replace b1 := b1.trans (b2.mono b1.size)
  clear hB b2
  generalize w3.heap.size = s3 at *
  go_wp2_with (at_make; refine wpList_make_own _ rfl _ _ 25 rfl w4.heap.size 40 i0 (.pointer none) 1 Try.underlying25 hi hz0 hz1 .i64 .i64 _ (len + len') rfl rfl (by simp) (by rw [hz2]; omega) (by unfold maxLen; omega) (Nat.le_refl _) ?_)
  intro w5 o5 gr5
  have b5 : Below w4.heap.size w4 w5 := (Below.refl _ _).grown gr5 (Nat.le_refl _) (by simp)
  have pa5 := pa.below b5
  go_wp2_with (at_builtin; refine wpList_append_fits _ rfl (.tmp 37) (.tmp 38) 25 rfl w4.heap.size 40 i0 1 Try.underlying25 hi hz1 w4.heap.size 0 (len + len') [] rfl o5 ⟨s2, 0, none⟩ len len ((mk s2 len N).map ptr) rfl (by simp [mk_len]) (ptrs_news pa5) (ptrs_one _) (by omega) ?_)
  intro w6 o6 gr6
  have b6 : Below w4.heap.size w4 w6 := b5.grown gr6 b5.size (by simp)
  clear o5 gr5 gr6 pa5 b5
  have pb6 := pb.below b6
  go_wp2_with (at_builtin; refine wpList_append_fits _ rfl (.tmp 40) (.tmp 41) 25 rfl w4.heap.size 40 i0 1 Try.underlying25 hi hz1 w4.heap.size len (len + len') _ rfl o6 ⟨s3, 0, none⟩ len' len' ((mk s3 len' N').map ptr) rfl (by simp [mk_len]) (ptrs_news pb6) (ptrs_one _) (by omega) ?_)
  intro w7 o7 gr7
  have b7 : Below w4.heap.size w4 w7 := b6.grown gr7 b6.size (by simp)
  clear o6 gr7 pb6 b6
  rw [← List.map_append] at o7
  obtain ⟨ax, cx, ex, _, pw⟩ := own_ptrs o7
  simp only [Value.slice.injEq] at ex
  obtain ⟨rfl, _, rfl⟩ := ex
  replace hs := hs.below b7
  replace hs' := hs'.below b7
  replace pa := pa.below b7
  replace na := na.below b7
  replace pb := pb.below b7
  replace nb := nb.below b7
  replace b1 := b1.trans (b7.mono b1.size)
  have nw : Named w7 (mk s2 len N ++ mk s3 len' N') := fun p hp => (List.mem_append.1 hp).elim (na p) (nb p)
  clear o7 b7
  generalize w4.heap.size = s4 at *
  go_wp2_with fail
  refine (lff_boxed _ len len (cnt N len) (mk s2 len N) w7 _ _ _ _ _ _ _ _ _ _ (by omega) pa na (fs_mk _ _ _)).mono ?_
  rintro e w8 ⟨ra, rca, rfl, _, pra, b8⟩
  replace hs := hs.below b8
  replace hs' := hs'.below b8
  replace pb := pb.below b8
  replace nb := nb.below b8
  replace pw := pw.below b8
  replace nw := nw.below b8
  replace b1 := b1.trans (b8.mono b1.size)
  clear b8 pa na
  go_wp2_with fail
  refine (lff_boxed _ len' len' (cnt N' len') (mk s3 len' N') w8 _ _ _ _ _ _ _ _ _ _ (by omega) pb nb (fs_mk _ _ _)).mono ?_
  rintro e w9 ⟨rb, rcb, rfl, _, prb, b9⟩
  replace hs := hs.below b9
  replace hs' := hs'.below b9
  replace pw := pw.below b9
  replace nw := nw.below b9
  replace pra := pra.below b9
  replace b1 := b1.trans (b9.mono b1.size)
  clear b9 pb nb
  have hfs : (fs (mk s2 len N ++ mk s3 len' N')).length = cnt N len + cnt N' len' := by rw [fs_append, List.length_append, fs_mk, fs_mk]
  go_wp2_with fail
  refine (lff_boxed _ (len + len') (len + len') (cnt N len + cnt N' len') (mk s2 len N ++ mk s3 len' N') w9 _ _ _ _ _ _ _ _ _ _ (by omega) pw nw hfs).mono ?_
  rintro e w10 ⟨rw, rcw, rfl, hform, prw, b10⟩
  replace hs := hs.below b10
  replace hs' := hs'.below b10
  replace pw := pw.below b10
  replace nw := nw.below b10
  replace pra := pra.below b10
  replace prb := prb.below b10
  replace b1 := b1.trans (b10.mono b1.size)
  clear b10 hfs
  go_wp2_with fail
  refine (count_any a len cap N V w10 hb hs).mono ?_
  rintro e w11 ⟨rfl, rfl⟩
  go_wp2_with fail
  refine (count_any a' len' cap' N' V' w11 hb' hs').mono ?_
  rintro e w12 ⟨rfl, rfl⟩
  go_wp2_with fail
  refine (named_any rw (cnt N len + cnt N' len') rcw (fs (mk s2 len N ++ mk s3 len' N')) w12 (by omega) prw (fun p hp => nw p (List.mem_filter.1 hp).1) (fun p hp => by simpa using (List.mem_filter.1 hp).2)).mono ?_
  rintro e w13 ⟨rfl, rfl⟩
  go_wp2_with fail
  refine (subseq_any rw _ (cnt N len + cnt N' len') rcw (len + len') (len + len') _ _ w13 (by omega) (by omega) prw pw (List.filter_sublist.map _) (fun x hx => by
    simp only [List.mem_map] at hx
    obtain ⟨p, hp, rfl⟩ := hx
    exact (nw p hp).2)).mono ?_
  rintro e w14 ⟨rfl, q14, hw14⟩
  have b14 : Below w13.heap.size w13 w14 := hw14 ▸ below_drewN (Below.refl _ _) q14
  clear hw14
  replace pra := pra.below b14
  replace prb := prb.below b14
  replace prw := prw.below b14
  replace b1 := b1.trans (b14.mono b1.size)
  clear b14 hs hs' pw nw
  rw [fs_append, List.map_append] at prw
  have hA : ((fs (mk s2 len N)).map Prod.fst).length = cnt N len := by rw [List.length_map, fs_mk]
  generalize (fs (mk s2 len N)).map Prod.fst = A at *
  generalize (fs (mk s3 len' N')).map Prod.fst = B at *
  generalize cnt N len = c at *
  generalize cnt N' len' = c' at *
  have HA : Hid (A.length = c) := hA
  clear hA
  rcases hform with ⟨rfl, hm0, hc0⟩ | ⟨g, rfl, hm0, hc0⟩
  · obtain ⟨rfl, rfl, rfl⟩ : c = 0 ∧ c' = 0 ∧ rcw = 0 := ⟨by omega, by omega, hc0⟩
    clear hm0 hc0
    go_wp2_with fail
    refine (same_any none ra 0 0 rca A w14 (by omega) ⟨HA.out, .inl rfl⟩ pra).mono ?_
    rintro e w15 ⟨rfl, q15, hw15⟩
    have b15 : Below w14.heap.size w14 w15 := hw15 ▸ below_drewN (Below.refl _ _) q15
    clear hw15
    replace prb := prb.below b15
    replace b1 := b1.trans (b15.mono b1.size)
    clear b15 pra
    go_wp2_with fail
    refine (same_any none rb 0 0 rcb B w15 (by omega) ⟨prb.1, .inl rfl⟩ prb).mono ?_
    rintro e w16 ⟨rfl, q16, hw16⟩
    have b16 : Below w15.heap.size w15 w16 := hw16 ▸ below_drewN (Below.refl _ _) q16
    clear hw16
    go_wp2
    go_ret
    exact ⟨rfl, b1.trans (b16.mono b1.size)⟩
  · have pl := prw.take (k := c) (by omega)
    rw [List.take_left' HA.out] at pl
    go_wp2_with fail
    refine (same_any _ ra c rcw rca A w14 (by omega) pl pra).mono ?_
    rintro e w15 ⟨rfl, q15, hw15⟩
    have b15 : Below w14.heap.size w14 w15 := hw15 ▸ below_drewN (Below.refl _ _) q15
    clear hw15
    replace prb := prb.below b15
    replace prw := prw.below b15
    replace b1 := b1.trans (b15.mono b1.size)
    clear b15 pra pl
    have pr : ∀ ao, (¬ rcw = c → ao = some ⟨g, 0 + c, none⟩) → Ptrs w15 ao c' B := fun ao hao => by
      have := prw.drop (k := c) (by omega) hm0 hao
      rwa [List.drop_left' HA.out, Nat.add_sub_cancel_left] at this
    go_wp2_with fail
    all_goals
      refine (same_any _ rb c' _ rcb B w15 (by omega) (pr _ (by simp [*])) prb).mono ?_
      rintro e w16 ⟨rfl, q16, hw16⟩
      have b16 : Below w15.heap.size w15 w16 := hw16 ▸ below_drewN (Below.refl _ _) q16
      clear hw16
      go_wp2
      go_ret
      exact ⟨rfl, b1.trans (b16.mono b1.size)⟩
end Go.Proofs.Qxb6613236a
