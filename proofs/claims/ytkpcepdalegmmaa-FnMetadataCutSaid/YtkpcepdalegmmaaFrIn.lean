/- Frames that come in. -/
import Derived.Test.YtkpcepdalegmmaaApp
import Derived.Test.YtkpcepdalegmmaaRowsin
import Derived.Deep.Slices
import Derived.Deep.Fields
import Derived.ChangeSame
import Derived.ProofKit
import Derived.OpenShut
namespace Go.Proofs.Ytkpcepdalegmmaa
open Go.RowKit Go.ChangeShapes Go.WideShapes Go.Deep

/-- What each place holds, gathered into a list. -/
theorem frames_of {w : World} {a : Addr} {n : Nat} (ha : a.block < w.heap.size) (h : ∀ i, i < n → ∃ f : Fr, w.cell? (a.add (i * 3)) = some (.bool f.cmd) ∧ w.cell? (a.add (i * 3 + 1)) = some (.bool f.more) ∧ w.cell? (a.add (i * 3 + 2)) = some (.slice f.A f.n f.c) ∧ RB w w.heap.size f.A f.n f.body ∧ f.n ≤ f.c ∧ f.n ≤ maxLen) :
    ∃ fs : List Fr, FrS w w.heap.size (some a) n fs ∧ ∀ f ∈ fs, f.n ≤ maxLen := by
  have h' : ∀ i : Nat, ∃ f : Fr, i < n → (w.cell? (a.add (i * 3)) = some (.bool f.cmd) ∧ w.cell? (a.add (i * 3 + 1)) = some (.bool f.more) ∧ w.cell? (a.add (i * 3 + 2)) = some (.slice f.A f.n f.c) ∧ RB w w.heap.size f.A f.n f.body ∧ f.n ≤ f.c ∧ f.n ≤ maxLen) := fun i => by
    by_cases hi : i < n
    · obtain ⟨f, hf⟩ := h i hi
      exact ⟨f, fun _ => hf⟩
    · exact ⟨⟨false, false, none, 0, 0, []⟩, fun h => absurd h hi⟩
  refine ⟨(List.range n).map fun i => Classical.choose (h' i), ⟨⟨?_, fun h0 => ⟨a, rfl, ha, fun j u hu => ?_⟩⟩, fun f hf => ?_⟩, fun f hf => ?_⟩
  · rw [cellsOf_length]; simp
  · have hl : j < n * 3 := by
      have := (List.getElem?_eq_some_iff.1 hu).1
      rw [cellsOf_length] at this
      simpa using this
    obtain ⟨i, r, hr, rfl⟩ : ∃ i r, r < 3 ∧ j = i * 3 + r := ⟨j / 3, j % 3, by omega, by omega⟩
    have hi : i < n := by omega
    have hfi : ((List.range n).map fun i => Classical.choose (h' i))[i]? = some (Classical.choose (h' i)) := by
      rw [List.getElem?_map, List.getElem?_range hi]
      rfl
    obtain ⟨c0, c1, c2⟩ := cellsOf_at _ _ _ hfi
    obtain ⟨k0, k1, k2, _⟩ := Classical.choose_spec (h' i) hi
    have hr3 : r = 0 ∨ r = 1 ∨ r = 2 := by omega
    rcases hr3 with rfl | rfl | rfl
    · exact k0.trans (c0.symm.trans hu)
    · exact k1.trans (c1.symm.trans hu)
    · exact k2.trans (c2.symm.trans hu)
  · obtain ⟨i, hi, rfl⟩ := List.mem_map.1 hf
    have := Classical.choose_spec (h' i) (List.mem_range.1 hi)
    exact ⟨this.2.2.2.1, this.2.2.2.2.1⟩
  · obtain ⟨i, hi, rfl⟩ := List.mem_map.1 hf
    exact (Classical.choose_spec (h' i) (List.mem_range.1 hi)).2.2.2.2.2
section
variable {H : Type} {enc : TypeId × Value → H} {P : Program} {w : World} {base : Nat} {spare : Nat → Bool} {held : Bool}
theorem open_slice_fields {t e : TypeId} {fs : Array Field} {fuel : Nat} {cs : List Value} {x : DataW H × List MemPlace} (ht : P.underlying t = some (.slice e)) (he : P.underlying e = some (.struct fs))
    (hone : oneCellFields P fs = true) (hC : P.cellsOf e = fs.size) (h : DataW.trod enc P w base spare held fuel t cs = some x) :
    (cs = [.slice none 0 0] ∧ x = (.nil, [])) ∨
    ∃ (a : Addr) (len cap m : Nat) (D : Nat → DataW H) (Pl : Nat → List MemPlace), cs = [.slice (some a) len cap] ∧ base ≤ a.block ∧ len ≤ cap ∧ cap ≤ maxLen ∧ m = (if spare a.block then cap else len) ∧
      x = (.slice ((List.range len).map D) ((List.range (m - len)).map fun j => D (len + j)), MemPlace.row a (m * fs.size) ++ (List.range m).flatMap Pl) ∧
      ∀ i, i < m → ∃ (ys : List (DataW H × List MemPlace)) (n : Nat), D i = .agg (ys.map (·.1)) ∧ Pl i = ys.flatMap (·.2) ∧ ys.length = fs.size ∧
        ∀ (j : Nat) (f : Field), fs[j]? = some f → ∃ (v : Value) (y : DataW H × List MemPlace), w.cell? (a.add (i * fs.size + j)) = some v ∧ ys[j]? = some y ∧ DataW.trod enc P w base spare held n f.type [v] = some y := by
  rcases open_slice ht h with h0 | ⟨a, len, cap, m, n, D, Pl, hcs, hb, hl, hm, hmm, hx, hi⟩
  · exact .inl h0
  · refine .inr ⟨a, len, cap, m, D, Pl, hcs, hb, hl, hm, hmm, by rw [hC] at hx; exact hx, fun i him => ?_⟩
    obtain ⟨cs', hc, ht'⟩ := hi i him
    rw [hC] at hc
    obtain ⟨ys, n', hn', hy, hlen, hyl, hf⟩ := DataW.trod_struct he ht'
    obtain ⟨_, hcl, hat⟩ := World.cells?_some hc
    simp only [Prod.mk.injEq] at hy
    refine ⟨ys, n', hy.1, hy.2, hyl, fun j f hj => ?_⟩
    obtain ⟨ho, hk⟩ := hone_of hone j f hj
    have hjl : j < fs.size := (Array.getElem?_eq_some_iff.1 hj).1
    have hcell := hat j hjl
    have hv : cs'[j]? = some (cs'[j]'(by omega)) := List.getElem?_eq_getElem (by omega)
    have h1 := hf j f hj
    rw [ho, hk] at h1
    have hone' : (cs'.drop j).take 1 = [cs'[j]'(by omega)] := by
      rw [List.drop_eq_getElem_cons (by omega)]
      rfl
    rw [hone'] at h1
    have hys : ys[j]? = some (ys[j]'(by omega)) := List.getElem?_eq_getElem (by omega)
    refine ⟨_, _, ?_, hys, h1.trans hys⟩
    rw [← Go.Deep.add_add, hcell, hv]
end

section
variable {H : Type} {enc : TypeId × Value → H} {w : World} {base : Nat} {held : Bool}
/-- A slice of frames that came in reads as frames. -/
theorem frames_in {fuel : Nat} {A : Option Addr} {n c : Nat} {x : DataW H × List MemPlace} (h : DataW.trod enc Try.prog w base (fun _ => true) held fuel 37 [.slice A n c] = some x) :
    ∃ fs : List Fr, FrS w w.heap.size A n fs ∧ n ≤ maxLen ∧ ∀ f ∈ fs, f.n ≤ maxLen := by
  rcases open_slice_fields Try.underlying37 Try.underlying71 (by kernel_rfl) (by kernel_rfl) h with ⟨hcs, _⟩ | ⟨a, len, cap, m, D, Pl, hcs, _, hl, hm, hmm, _, hi⟩
  · simp at hcs
    obtain ⟨rfl, rfl, rfl⟩ := hcs
    exact ⟨[], ⟨Reads.none_, fun f hf => by cases hf⟩, Nat.zero_le _, fun f hf => by cases hf⟩
  · simp at hcs
    obtain ⟨rfl, rfl, rfl⟩ := hcs
    by_cases h0 : n = 0
    · subst h0
      exact ⟨[], ⟨Reads.none_, fun f hf => by cases hf⟩, Nat.zero_le _, fun f hf => by cases hf⟩
    · have hnm : n ≤ m := by rw [hmm]; split <;> omega
      have each : ∀ i, i < n → ∃ f : Fr, w.cell? (a.add (i * 3)) = some (.bool f.cmd) ∧ w.cell? (a.add (i * 3 + 1)) = some (.bool f.more) ∧ w.cell? (a.add (i * 3 + 2)) = some (.slice f.A f.n f.c) ∧ RB w w.heap.size f.A f.n f.body ∧ f.n ≤ f.c ∧ f.n ≤ maxLen := by
        intro i hin
        obtain ⟨ys, nn, _, _, _, hf⟩ := hi i (by omega)
        obtain ⟨v0, y0, c0, _, t0⟩ := hf 0 _ rfl
        obtain ⟨v1, y1, c1, _, t1⟩ := hf 1 _ rfl
        obtain ⟨v2, y2, c2, _, t2⟩ := hf 2 _ rfl
        obtain ⟨b0, e0, _⟩ := DataW.trod_bool Try.underlying4 t0
        obtain ⟨b1, e1, _⟩ := DataW.trod_bool Try.underlying4 t1
        simp only [List.cons.injEq, and_true] at e0 e1
        subst e0
        subst e1
        rcases open_ints Try.underlying22 Try.underlying5 (by kernel_rfl) t2 with ⟨hcs, _⟩ | ⟨x2, l2, k2, zs, hcs, _, hl2, hm2, hz, _, hcell, hwz⟩
        · simp only [List.cons.injEq, and_true] at hcs
          subst hcs
          exact ⟨⟨b0, b1, none, 0, 0, []⟩, c0, c1, c2, RB.nil_, Nat.le_refl _, Nat.zero_le _⟩
        · simp only [List.cons.injEq, and_true] at hcs
          subst hcs
          obtain ⟨l, hr⟩ := rb_of_cells hl2 (by simpa using hz) hcell hwz
          exact ⟨⟨b0, b1, some x2, l2, k2, l⟩, c0, c1, c2, hr, hl2, Nat.le_trans hl2 hm2⟩
      obtain ⟨f0, k0, _⟩ := each 0 (by omega)
      rw [Nat.zero_mul, Addr.add_zero'] at k0
      obtain ⟨fs, h1, h2⟩ := frames_of (World.block_lt_of_cell? w a k0) each
      exact ⟨fs, h1, by omega, h2⟩
end
end Go.Proofs.Ytkpcepdalegmmaa
