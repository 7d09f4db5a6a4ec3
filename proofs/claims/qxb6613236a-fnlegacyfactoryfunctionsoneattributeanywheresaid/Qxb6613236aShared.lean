/-
  WHAT THE TWO LAWS SHARE: the list of attributes that buildAttrs makes; slices of pointers cut; the method behind a new Interface; the []AttrSpec opened.
-/
import Derived.Test.Qxb6613236aLeafs
import Derived.WalkSmall
import Derived.Deep.SlicePairs
import Derived.Lib.SmallJoins
namespace Go.Proofs.Qxb6613236a
open Go.ChangeShapes Go.WideShapes Go.ChangeAt Go.RowKit

def mk (s n : Nat) (N : Nat → ByteArray) : List (Nat × ByteArray) := (List.range n).map fun i => (s + 1 + i, N i)

theorem mk_len (s n : Nat) (N : Nat → ByteArray) : (mk s n N).length = n := by simp [mk]
theorem fs_mk (s n : Nat) (N : Nat → ByteArray) : (fs (mk s n N)).length = cnt N n := by
  simp only [fs, mk, cnt, List.filter_map, List.length_map, Function.comp_def]
theorem fs_append (L M : List (Nat × ByteArray)) : fs (L ++ M) = fs L ++ fs M := List.filter_append L M
theorem built_ptrs {w w' : World} {n : Nat} {N : Nat → ByteArray} (h : Built w w' n n N) :
    Ptrs w' (some ⟨w.heap.size, 0, none⟩) n ((mk w.heap.size n N).map Prod.fst) ∧ Named w' (mk w.heap.size n N) ∧ Below w.heap.size w w' := by
  obtain ⟨_, hrow, hat, hnx⟩ := h
  refine ⟨⟨by simp [mk], .inr ⟨_, _, rfl, fun i x hx => ?_⟩⟩, fun p hp => ?_, hnx⟩
  · simp only [mk, List.map_map, List.getElem?_map, Option.map_eq_some_iff, Function.comp_def] at hx
    obtain ⟨i', hi', rfl⟩ := hx
    have hi : i < n ∧ i' = i := by
      obtain ⟨h1, h2⟩ := List.getElem?_eq_some_iff.1 hi'
      simp at h1 h2
      exact ⟨h1, h2.symm⟩
    obtain ⟨hi, rfl⟩ := hi
    have := hrow.cell hi
    simpa [hi] using this
  · simp only [mk, List.mem_map, List.mem_range] at hp
    obtain ⟨i, hi, rfl⟩ := hp
    exact hat i hi
theorem ptrs_news {w : World} {b off n : Nat} {L : List (Nat × ByteArray)} (h : Ptrs w (some ⟨b, off, none⟩) n (L.map Prod.fst)) : ∀ j u, (L.map ptr)[j]? = some u → w.cell? ((⟨b, off, none⟩ : Addr).add j) = some u := by
  intro j u hu
  rcases h with ⟨hl, rfl | ⟨b', off', e, hc⟩⟩
  · have : L = [] := by simpa using hl
    subst this
    simp at hu
  · simp only [Option.some.injEq, Addr.mk.injEq] at e
    obtain ⟨rfl, rfl, _⟩ := e
    rw [Addr.add_lit]
    simp only [List.getElem?_map, Option.map_eq_some_iff] at hu
    obtain ⟨p, hp, rfl⟩ := hu
    exact hc j p.1 (by simp [hp])
theorem ptrs_one (L : List (Nat × ByteArray)) : ∀ u ∈ L.map ptr, u.oneCell' = true := by
  intro u hu
  simp only [List.mem_map] at hu
  obtain ⟨p, _, rfl⟩ := hu
  rfl

theorem Ptrs.take {w : World} {a : Option Addr} {n k : Nat} {B : List Nat} (h : Ptrs w a n B) (hk : k ≤ n) : Ptrs w a k (B.take k) := by
  refine ⟨by have := h.1; simp; omega, ?_⟩
  rcases h.2 with h0 | ⟨b, off, ha, hc⟩
  · exact .inl (by omega)
  · refine .inr ⟨b, off, ha, fun i x hx => hc i x ?_⟩
    rw [List.getElem?_take] at hx
    split at hx
    · exact hx
    · cases hx
theorem Ptrs.drop {w : World} {b off n cap k : Nat} {B : List Nat} (h : Ptrs w (some ⟨b, off, none⟩) n B) (hk : k ≤ n) (hn : n ≤ cap) {ao : Option Addr} (hao : ¬ cap = k → ao = some ⟨b, off + k, none⟩) : Ptrs w ao (n - k) (B.drop k) := by
  refine ⟨by have := h.1; simp; omega, ?_⟩
  by_cases e : n = k
  · exact .inl (by omega)
  · refine .inr ⟨b, off + k, hao (by omega), fun i x hx => ?_⟩
    rcases h.2 with h0 | ⟨b', off', ha, hc⟩
    · omega
    · simp only [Option.some.injEq, Addr.mk.injEq] at ha
      obtain ⟨rfl, rfl, _⟩ := ha
      rw [List.getElem?_drop] at hx
      have := hc (k + i) x hx
      rwa [← Nat.add_assoc] at this

theorem lff_boxed (a : Option Addr) (n cap m : Nat) (L : List (Nat × ByteArray)) (w : World) (x0 x1 x2 x4 x5 x6 x7 x8 x9 x10 : Value) (hl : n ≤ 4194304) (hp : Ptrs w a n (L.map Prod.fst)) (hn : Named w L) (hm : (fs L).length = m) :
    Calls Try.prog 8 #[.pointer (some ⟨w.heap.size, 0, none⟩)] (w.alloc (.cells #[x0, x1, x2, .slice a n cap, x4, x5, x6, x7, x8, x9, x10] 32)) fun e w' =>
      ∃ a' cap', e = .returned (.slice a' m cap') ∧ Form a' m cap' ∧ Ptrs w' a' m ((fs L).map Prod.fst) ∧ Below w.heap.size w w' := by
  have b0 : Below w.heap.size w (w.alloc (.cells #[x0, x1, x2, .slice a n cap, x4, x5, x6, x7, x8, x9, x10] 32)) := (Below.refl _ _).alloc (Nat.le_refl _) _
  refine (lff_any w.heap.size a n cap m L _ hl ?_ (hp.below b0) (hn.below b0) hm).mono ?_
  · simp
  · rintro e w' ⟨a', cap', h1, h2, h3, h4⟩
    exact ⟨a', cap', h1, h2, h3, b0.trans (h4.mono b0.size)⟩


theorem Try.own : ownKnob Try.prog.godebug = none := by kernel_rfl
theorem Try.laidOut : laidOutB Try.prog = true := by kernel_rfl
theorem Try.cells38 : Try.prog.cellsOf 38 = 2 := by kernel_rfl
theorem Try.cells9 : Try.prog.cellsOf 9 = 1 := by kernel_rfl

/-- A []AttrSpec THAT CAME IN, opened. -/
theorem open_specs {H : Type} {enc : TypeId × Value → H} {W : World} {a : Option Addr} {len cap : Nat} {d : DataW H} {p : List MemPlace}
    (h : DataW.Trod enc Try.prog W 0 (fun _ => true) true 22 (.slice a len cap) d p) :
    ∃ N V, len ≤ 9223372036854775807 ∧ len ≤ cap ∧ cap ≤ 9223372036854775807 ∧ Specs W a len N V ∧ (∀ i, i < len → (N i).size ≤ 9223372036854775807 ∧ (V i).size ≤ 9223372036854775807) ∧ (a = none → len = 0 ∧ cap = 0) := by
  obtain ⟨fuel, hf⟩ := h
  rcases Deep.open_slice_pairs Try.underlying22 Try.underlying38 Try.cells38 rfl rfl Try.cells9 Try.cells9 hf with ⟨hcs, _⟩ | ⟨x, l, c, m, n, V0, V1, D0, D1, P0, P1, hcs, _, hl, hm, hmm, _, hx⟩
  · simp [Value.cells] at hcs
    obtain ⟨rfl, rfl, rfl⟩ := hcs
    exact ⟨fun _ => ByteArray.empty, fun _ => ByteArray.empty, by omega, by omega, by omega, .inl rfl, fun i hi => by omega, fun _ => ⟨rfl, rfl⟩⟩
  · simp [Value.cells] at hcs
    obtain ⟨rfl, rfl, rfl⟩ := hcs
    have hmc : m = cap := by simpa using hmm
    subst hmc
    unfold maxLen at hm
    have each : ∀ i, i < len → ∃ q : ByteArray × ByteArray, V0 i = .string q.1 ∧ V1 i = .string q.2 ∧ q.1.size ≤ maxLen ∧ q.2.size ≤ maxLen := by
      intro i hi
      obtain ⟨_, _, t0, t1⟩ := hx i (by omega)
      obtain ⟨s0, e0, _, z0⟩ := DataW.trod_string Try.underlying9 t0
      obtain ⟨s1, e1, _, z1⟩ := DataW.trod_string Try.underlying9 t1
      simp at e0 e1
      exact ⟨(s0, s1), e0, e1, z0, z1⟩
    obtain ⟨q, hq⟩ := Deep.choose_lt each
    refine ⟨fun i => (q i).1, fun i => (q i).2, by omega, hl, by omega, ?_, fun i hi => (hq i hi).2.2, by simp⟩
    rcases Nat.eq_zero_or_pos len with h0 | h0
    · exact .inl h0
    · obtain ⟨b, off, spot⟩ := x
      have c0 := (hx 0 (by omega)).1
      have hsp : spot = none := by
        have := World.cell?_spot (w := W) c0
        simpa [Addr.add] using this
      subst hsp
      refine .inr ⟨b, off, rfl, fun i hi => ?_⟩
      obtain ⟨k0, k1, _, _⟩ := hx i (by omega)
      obtain ⟨e0, e1, _, _⟩ := hq i hi
      rw [e0, Addr.add_lit] at k0
      rw [e1, Addr.add_lit] at k1
      exact ⟨k0, k1⟩

end Go.Proofs.Qxb6613236a
