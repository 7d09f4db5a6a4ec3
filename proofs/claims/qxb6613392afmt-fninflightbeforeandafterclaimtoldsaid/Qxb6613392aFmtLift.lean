/-
  'Rows.FnInFlightBeforeAndAfterClaimToldSaid', PROVED: the row's step (a start that fits, the arguments and the listed variables opened, the walk), then the card: told and tied. The walk comes to no stop: fmt is not asked.
-/
import Derived.Test.Qxb6613392aFmtLawWalk
import Derived.Test.Qxb6613392aFmtTie
import Derived.Test.Qxb6613392aFmtCards
import Derived.WalkSmall
import Derived.OpenShut
import Derived.Deep.Grids
import Derived.SliceStrings
import Derived.LaidLaws
import Derived.Stop.LaidErr
import Derived.Stop.JoinedTold
import Derived.SevenTiedAt
namespace Go.Proofs.Qxb6613392aFmt.fnInFlight
open Go.ChangeShapes Go.WideShapes Go.ChangeAt Go.RowKit
open Go.ChangeMaps (open_string shut_string)

theorem own : ownKnob Tryf.prog.godebug = none := by kernel_rfl
theorem laidOut : laidOutB Tryf.prog = true := by kernel_rfl
theorem cells9 : Tryf.prog.cellsOf 9 = 1 := by kernel_rfl
theorem cells4 : Tryf.prog.cellsOf 4 = 1 := by kernel_rfl

/-- A []string that came in. -/
theorem open_strs {H : Type} {enc : TypeId × Value → H} {W : World} {a : Option Addr} {len cap : Nat} {d : DataW H} {p : List MemPlace}
    (h : DataW.Trod enc Tryf.prog W 0 (fun _ => true) true 22 (.slice a len cap) d p) :
    ∃ S, len ≤ 9223372036854775807 ∧ Strs W a len S ∧ ∀ i, i < len → (S i).size ≤ 9223372036854775807 := by
  obtain ⟨fuel, hf⟩ := h
  rcases open_strings Tryf.underlying22 Tryf.underlying9 cells9 hf with ⟨hcs, _⟩ | ⟨x, l, c, ss, hcs, _, hl, hm, hz, _, hcell, hws⟩
  · simp [Value.cells] at hcs
    obtain ⟨rfl, rfl, rfl⟩ := hcs
    exact ⟨fun _ => ByteArray.empty, by omega, .inl (by omega), fun i hi => by omega⟩
  · simp [Value.cells] at hcs
    obtain ⟨rfl, rfl, rfl⟩ := hcs
    have hlen : ss.length = cap := by simpa using hz
    unfold maxLen at hm
    refine ⟨fun i => ss.getD i ByteArray.empty, by omega, ?_, fun i hi => ?_⟩
    · rcases Nat.eq_zero_or_pos len with h0 | h0
      · exact .inl (by omega)
      · obtain ⟨b, off, spot⟩ := x
        have c0 := hcell 0 (by omega)
        have hsp : spot = none := by simpa [Addr.add] using World.cell?_spot c0
        subst hsp
        refine .inr ⟨b, off, rfl, fun i hi => ?_⟩
        have := hcell i (by omega)
        rwa [Addr.add_lit] at this
    · refine hws _ ?_
      show ss.getD i ByteArray.empty ∈ ss
      rw [List.getD_eq_getElem?_getD, List.getElem?_eq_getElem (by omega)]
      simp

/-- A []bool that came in. -/
theorem open_bls {H : Type} {enc : TypeId × Value → H} {W : World} {a : Option Addr} {len cap : Nat} {d : DataW H} {p : List MemPlace}
    (h : DataW.Trod enc Tryf.prog W 0 (fun _ => true) true 23 (.slice a len cap) d p) :
    ∃ R, len ≤ 9223372036854775807 ∧ Bools W a len R := by
  obtain ⟨fuel, hf⟩ := h
  rcases Deep.open_bools Tryf.underlying23 Tryf.underlying4 cells4 hf with ⟨hcs, _⟩ | ⟨x, l, c, B, hcs, _, hl, hm, _, hcell⟩
  · simp [Value.cells] at hcs
    obtain ⟨rfl, rfl, rfl⟩ := hcs
    exact ⟨fun _ => false, by omega, .inl (by omega)⟩
  · simp [Value.cells] at hcs
    obtain ⟨rfl, rfl, rfl⟩ := hcs
    unfold maxLen at hm
    refine ⟨B, by omega, ?_⟩
    rcases Nat.eq_zero_or_pos len with h0 | h0
    · exact .inl (by omega)
    · obtain ⟨b, off, spot⟩ := x
      have c0 := hcell 0 (by omega)
      have hsp : spot = none := by simpa [Addr.add] using World.cell?_spot c0
      subst hsp
      refine .inr ⟨b, off, rfl, fun i hi => ?_⟩
      have := hcell i (by omega)
      rwa [Addr.add_lit] at this

/-- A LISTED VARIABLE that reads as an interface value that is not nil. -/
theorem var_of_laid {n nm : String} {x : DataW Unit} {r : List (String × DataW Unit)} {W : World} {g : Nat} (h : laidMet Tryf.prog ((n, .iface nm x) :: r) W) (hg : Tryf.prog.globalNamed n = some g) (ht : (Tryf.prog.globals[g]?).map (·.type) = some 37) :
    ∃ u v, W.var? Tryf.prog n = some #[.iface u v] := by
  obtain ⟨ps, ⟨g0, t0, cs0, f0, p0, q0, hg0, ht0, hv0, hd0, _, e0⟩, _, _⟩ := h
  obtain rfl := Option.some.inj (hg.symm.trans hg0)
  obtain rfl := Option.some.inj (ht.symm.trans ht0)
  obtain ⟨l0⟩ := cs0
  obtain ⟨f1, u, v, e, _, _⟩ := iface_of_trod Tryf.underlying37 hd0
  simp only at e
  subst e
  exact ⟨u, v, hv0⟩

/-- THE START THAT IS SHOWN TO BE THERE meets what the row lists. -/
theorem laid_met (os : Os) (args : Array Value) : laidMet Tryf.prog Rows.fnInFlightBeforeAndAfterClaimRow.laid (({ World.holding Tryf.prog os ⟨#[.cells #[.string ⟨#[116, 97, 115, 107, 115, 58, 32, 116, 104, 101, 32, 109, 97, 110, 97, 103, 101, 114, 32, 105, 115, 32, 99, 108, 111, 115, 101, 100]⟩] 109, .cells #[.string ⟨#[116, 97, 115, 107, 115, 58, 32, 97, 110, 32, 101, 120, 101, 99, 117, 116, 105, 111, 110, 32, 111, 102, 32, 116, 104, 105, 115, 32, 116, 97, 115, 107, 32, 105, 115, 32, 105, 110, 32, 112, 114, 111, 103, 114, 101, 115, 115]⟩] 109, .cells #[.string ⟨#[116, 97, 115, 107, 115, 58, 32, 97, 32, 99, 97, 110, 99, 101, 108, 32, 111, 102, 32, 116, 104, 105, 115, 32, 116, 97, 115, 107, 32, 105, 115, 32, 105, 110, 32, 112, 114, 111, 103, 114, 101, 115, 115]⟩] 109], #[], []⟩ with heap := ((((World.holding Tryf.prog os ⟨#[.cells #[.string ⟨#[116, 97, 115, 107, 115, 58, 32, 116, 104, 101, 32, 109, 97, 110, 97, 103, 101, 114, 32, 105, 115, 32, 99, 108, 111, 115, 101, 100]⟩] 109, .cells #[.string ⟨#[116, 97, 115, 107, 115, 58, 32, 97, 110, 32, 101, 120, 101, 99, 117, 116, 105, 111, 110, 32, 111, 102, 32, 116, 104, 105, 115, 32, 116, 97, 115, 107, 32, 105, 115, 32, 105, 110, 32, 112, 114, 111, 103, 114, 101, 115, 115]⟩] 109, .cells #[.string ⟨#[116, 97, 115, 107, 115, 58, 32, 97, 32, 99, 97, 110, 99, 101, 108, 32, 111, 102, 32, 116, 104, 105, 115, 32, 116, 97, 115, 107, 32, 105, 115, 32, 105, 110, 32, 112, 114, 111, 103, 114, 101, 115, 115]⟩] 109], #[], []⟩).heap.modify 0 fun | .cells _ t frozen => .cells #[.iface 107 (.pointer (some ⟨(World.settled Tryf.prog os).heap.size + 0, 0, none⟩))] t frozen | o => o).modify 1 fun | .cells _ t frozen => .cells #[.iface 107 (.pointer (some ⟨(World.settled Tryf.prog os).heap.size + 1, 0, none⟩))] t frozen | o => o).modify 2 fun | .cells _ t frozen => .cells #[.iface 107 (.pointer (some ⟨(World.settled Tryf.prog os).heap.size + 2, 0, none⟩))] t frozen | o => o) } : World).forCall (fun _ _ => 0) ⟨#[], args, []⟩).memory :=
  laidMet_of_run' 8 (by kernel_rfl) (by kernel_rfl)

set_option maxRecDepth 100000 in
set_option maxHeartbeats 4000000 in
theorem lifted (os : Os) (started : os.Started) (H : Type) (enc : TypeId × Value → H) :
    ReturnsInTold none {} Tryf.checked os 3 .any Input.okWide ((OpenSpec.ofChange Rows.fnInFlightBeforeAndAfterClaimSpec).preRow enc Tryf.prog Tryf.f3 Rows.fnInFlightBeforeAndAfterClaimRow.domain false Rows.fnInFlightBeforeAndAfterClaimRow.laid) (fun F => ((OpenSpec.ofChange Rows.fnInFlightBeforeAndAfterClaimSpec).at F).post enc Tryf.prog Tryf.f3 false true false false) (aloneAtReturn Tryf.prog) nothingAlways := by
  refine returnsInTold_of_row (C := Tryf.checked) (s := OpenSpec.ofChange Rows.fnInFlightBeforeAndAfterClaimSpec) (by kernel_rfl) own started (by kernel_rfl) Tryf.func3
    (OpenSpec.witness_stopped_at (enc := enc) (C := Tryf.checked) false ({ World.holding Tryf.prog os ⟨#[.cells #[.string ⟨#[116, 97, 115, 107, 115, 58, 32, 116, 104, 101, 32, 109, 97, 110, 97, 103, 101, 114, 32, 105, 115, 32, 99, 108, 111, 115, 101, 100]⟩] 109, .cells #[.string ⟨#[116, 97, 115, 107, 115, 58, 32, 97, 110, 32, 101, 120, 101, 99, 117, 116, 105, 111, 110, 32, 111, 102, 32, 116, 104, 105, 115, 32, 116, 97, 115, 107, 32, 105, 115, 32, 105, 110, 32, 112, 114, 111, 103, 114, 101, 115, 115]⟩] 109, .cells #[.string ⟨#[116, 97, 115, 107, 115, 58, 32, 97, 32, 99, 97, 110, 99, 101, 108, 32, 111, 102, 32, 116, 104, 105, 115, 32, 116, 97, 115, 107, 32, 105, 115, 32, 105, 110, 32, 112, 114, 111, 103, 114, 101, 115, 115]⟩] 109], #[], []⟩ with heap := ((((World.holding Tryf.prog os ⟨#[.cells #[.string ⟨#[116, 97, 115, 107, 115, 58, 32, 116, 104, 101, 32, 109, 97, 110, 97, 103, 101, 114, 32, 105, 115, 32, 99, 108, 111, 115, 101, 100]⟩] 109, .cells #[.string ⟨#[116, 97, 115, 107, 115, 58, 32, 97, 110, 32, 101, 120, 101, 99, 117, 116, 105, 111, 110, 32, 111, 102, 32, 116, 104, 105, 115, 32, 116, 97, 115, 107, 32, 105, 115, 32, 105, 110, 32, 112, 114, 111, 103, 114, 101, 115, 115]⟩] 109, .cells #[.string ⟨#[116, 97, 115, 107, 115, 58, 32, 97, 32, 99, 97, 110, 99, 101, 108, 32, 111, 102, 32, 116, 104, 105, 115, 32, 116, 97, 115, 107, 32, 105, 115, 32, 105, 110, 32, 112, 114, 111, 103, 114, 101, 115, 115]⟩] 109], #[], []⟩).heap.modify 0 fun | .cells _ t frozen => .cells #[.iface 107 (.pointer (some ⟨(World.settled Tryf.prog os).heap.size + 0, 0, none⟩))] t frozen | o => o).modify 1 fun | .cells _ t frozen => .cells #[.iface 107 (.pointer (some ⟨(World.settled Tryf.prog os).heap.size + 1, 0, none⟩))] t frozen | o => o).modify 2 fun | .cells _ t frozen => .cells #[.iface 107 (.pointer (some ⟨(World.settled Tryf.prog os).heap.size + 2, 0, none⟩))] t frozen | o => o) } : World) #[.slice none 0 0, .slice none 0 0, .slice none 0 0, .string ⟨#[]⟩, .string ⟨#[]⟩] rfl (by kernel_rfl) (by kernel_rfl) (by kernel_rfl)
      (OpenSpec.preRow_of_B rfl 8 (by kernel_rfl) (by kernel_rfl) (laid_met os _))) ?_
  intro F W base args ds gs before _ _ hval0 hW _ _ _ hL _
  have hval : ∀ (j : Nat) t v, Tryf.f3.params[j]? = some t → args[j]? = some v → Value.okWide Tryf.prog W .any base t v := hval0
  have hW' := hW
  obtain ⟨p, q, hA0, hV0, rfl, _, _⟩ := hW
  have hA : DataW.TrodAll enc Tryf.prog W 0 (fun _ => true) true Tryf.f3.params.toList args.toList ds p := hA0
  have hV : DataW.TrodVars enc Tryf.prog W (fun _ => true) Rows.fnInFlightBeforeAndAfterClaimSpec.vars gs q := hV0
  rw [Tryf.params3] at hA hval
  obtain ⟨v0, vs0, d0, ds0, p0, q0, hargs, rfl, rfl, h0, r0⟩ := trodAll_cons hA
  obtain ⟨v1, vs1, d1, ds1, p1, q1, rfl, rfl, rfl, h1, r1⟩ := trodAll_cons r0
  obtain ⟨v2, vs2, d2, ds2, p2, q2, rfl, rfl, rfl, h2, r2⟩ := trodAll_cons r1
  obtain ⟨v3, vs3, d3, ds3, p3, q3, rfl, rfl, rfl, h3, r3⟩ := trodAll_cons r2
  obtain ⟨v4, vs4, d4, ds4, p4, q4, rfl, rfl, rfl, h4, r4⟩ := trodAll_cons r3
  obtain ⟨rfl, rfl, rfl⟩ := trodAll_nil r4
  obtain rfl : args = #[v0, v1, v2, v3, v4] := by cases args; simp_all
  obtain ⟨a0, len0, cap0, rfl⟩ := okWide_slice Tryf.underlying22 (hval 0 22 v0 rfl rfl)
  obtain ⟨a1, len1, cap1, rfl⟩ := okWide_slice Tryf.underlying23 (hval 1 23 v1 rfl rfl)
  obtain ⟨a2, len2, cap2, rfl⟩ := okWide_slice Tryf.underlying23 (hval 2 23 v2 rfl rfl)
  obtain ⟨s, rfl, rfl, rfl, ws⟩ := open_string Tryf.underlying9 (hval 3 9 v3 rfl rfl) h3
  obtain ⟨t, rfl, rfl, rfl, wt⟩ := open_string Tryf.underlying9 (hval 4 9 v4 rfl rfl) h4
  have k0 := h0
  have k1 := h1
  have k2 := h2
  have lt0 : ∀ x ∈ p0, x.block < W.heap.size := by obtain ⟨m, hm⟩ := k0; exact DataW.trod_lt m _ _ _ hm
  have lt1 : ∀ x ∈ p1, x.block < W.heap.size := by obtain ⟨m, hm⟩ := k1; exact DataW.trod_lt m _ _ _ hm
  have lt2 : ∀ x ∈ p2, x.block < W.heap.size := by obtain ⟨m, hm⟩ := k2; exact DataW.trod_lt m _ _ _ hm
  obtain ⟨S, l0, s0, z0⟩ := open_strs h0
  obtain ⟨R, l1, s1⟩ := open_bls h1
  obtain ⟨C, l2, s2⟩ := open_bls h2
  have hL' : laidMet Tryf.prog Rows.fnInFlightBeforeAndAfterClaimRow.laid W := hL
  obtain ⟨u1, y1, g1⟩ := var_of_laid (g := 1) hL' (by kernel_rfl) (by kernel_rfl)
  obtain ⟨u2, y2, g2⟩ := var_of_laid (g := 2) hL'.tail (by kernel_rfl) (by kernel_rfl)
  obtain ⟨u0, y0, g0⟩ := var_of_laid (g := 0) hL'.tail.tail (by kernel_rfl) (by kernel_rfl)
  have hread : ∀ (W2 : World) (sp : Nat → Bool), Below W.heap.size W W2 → DataW.TrodVars enc Tryf.prog W2 sp Rows.fnInFlightBeforeAndAfterClaimSpec.vars [tok enc (.iface u0 y0), tok enc (.iface u1 y1), tok enc (.iface u2 y2)] [.cell 0 0, .cell 1 0, .cell 2 0] := by
    intro W2 sp hb
    have c0 : W.cell? ⟨0, 0, none⟩ = some (.iface u0 y0) := by simpa using World.var?_cell (g := 0) (by kernel_rfl) g0 0
    have c1 : W.cell? ⟨1, 0, none⟩ = some (.iface u1 y1) := by simpa using World.var?_cell (g := 1) (by kernel_rfl) g1 0
    have c2 : W.cell? ⟨2, 0, none⟩ = some (.iface u2 y2) := by simpa using World.var?_cell (g := 2) (by kernel_rfl) g2 0
    exact ⟨0, 37, #[.iface u0 y0], 1, [], _, by kernel_rfl, by kernel_rfl, var?_below (g := 0) hb (by kernel_rfl) (World.block_lt_of_cell? W _ c0) g0, trod_held (v := .iface u0 y0) Tryf.underlying37 trivial 0,
      ⟨1, 37, #[.iface u1 y1], 1, [], _, by kernel_rfl, by kernel_rfl, var?_below (g := 1) hb (by kernel_rfl) (World.block_lt_of_cell? W _ c1) g1, trod_held (v := .iface u1 y1) Tryf.underlying37 trivial 0,
      ⟨2, 37, #[.iface u2 y2], 1, [], [], by kernel_rfl, by kernel_rfl, var?_below (g := 2) hb (by kernel_rfl) (World.block_lt_of_cell? W _ c2) g2, trod_held (v := .iface u2 y2) Tryf.underlying37 trivial 0, rfl, rfl⟩, rfl⟩, rfl⟩
  obtain ⟨rfl, rfl⟩ := hV.unique (hread W _ (Below.refl _ _))
  have c1 : W.cell? ⟨1, 0, none⟩ = some (.iface u1 y1) := by simpa using World.var?_cell (g := 1) (by kernel_rfl) g1 0
  have c2 : W.cell? ⟨2, 0, none⟩ = some (.iface u2 y2) := by simpa using World.var?_cell (g := 2) (by kernel_rfl) g2 0
  clear hA0 hval0 hV0
  refine (law_any a0 len0 cap0 a1 len1 cap1 a2 len2 cap2 s t S R C u1 u2 y1 y2 W l0 l1 l2 ws wt z0 s0 s1 s2 c1 c2).mono fun e W' ⟨he, bel⟩ => ?_
  subst he
  exact ⟨_, rfl, _, _, _, [], _, _, hW', trodAll_mk1 (shut_bool Tryf.underlying4 _),
    (trodAll_cons_mk (Below.trod laidOut (by kernel_rfl) (of_decide_eq_true (by kernel_rfl)) k0 bel lt0) (trodAll_cons_mk (Below.trod laidOut (by kernel_rfl) (of_decide_eq_true (by kernel_rfl)) k1 bel lt1) (trodAll_cons_mk (Below.trod laidOut (by kernel_rfl) (of_decide_eq_true (by kernel_rfl)) k2 bel lt2) (trodAll_cons_mk (shut_string Tryf.underlying9 ws) (trodAll_cons_mk (shut_string Tryf.underlying9 wt) trodAll_mk0))))),
    hread W' _ bel, bel.frame _, fun h => by cases h⟩

theorem stopNames : Tryf.pinned.checked.prog.stops = ["fmt.errorf"] := by kernel_rfl
theorem stopKnobs : Tryf.pinned.checked.prog.stopKnobs = [] := by kernel_rfl
theorem quiet (os : Os) : Stop.quiet Tryf.pinned.checked.prog os := by
  intro k hk
  rw [stopKnobs] at hk
  cases hk

/-- THE CARD: told and tied. -/
theorem proved : Rows.FnInFlightBeforeAndAfterClaimToldSaid :=
  Claim7.holds_of_told_tied_any_at .later 3 Tryf.f3 "fmt.errorf" [] [] _ _ _ _ _ (by kernel_rfl) rfl rfl rfl laidOut (by kernel_rfl) rfl ⟨rfl, rfl, rfl, rfl, rfl, rfl, rfl⟩ rfl rfl (by kernel_rfl) (by kernel_rfl) Tryf.func3 (by kernel_rfl)
    (of_decide_eq_true (by kernel_rfl)) (by unfold Func.isWrapper; first | (rw [if_pos (by decide +kernel)]; kernel_rfl) | (rw [if_neg (by decide +kernel)]; exact ⟨rfl, rfl⟩)) stopNames.symm rfl stopKnobs.symm (by kernel_rfl)
    (by kernel_rfl) (by kernel_rfl) (by kernel_rfl) (by kernel_rfl) (by kernel_rfl) (by kernel_rfl) (by kernel_rfl) (by kernel_rfl) (by kernel_rfl) rfl (by kernel_rfl) rfl rfl
    rfl rfl
    rfl (by kernel_rfl) (by kernel_rfl) (by kernel_rfl) (by decide) (by kernel_rfl) fnInFlightBeforeAndAfterClaim_row_tie
    (OpenClaim.moreEntering_of (by kernel_rfl) (by kernel_rfl) (by kernel_rfl) (by kernel_rfl) (by kernel_rfl) (by kernel_rfl) (by kernel_rfl) (by kernel_rfl) (by kernel_rfl) (by kernel_rfl))
    ⟨_, WideRow.started_initial, quiet _⟩
    (fun os started _ H enc _ => lifted os started H enc)

end Go.Proofs.Qxb6613392aFmt.fnInFlight
