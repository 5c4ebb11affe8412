/- Properties that come in. -/
import Derived.Test.YtkpcepdalegmmaaDoorKv1
import Derived.Test.YtkpcepdalegmmaaDoorOpenS
namespace Go.Proofs.YtkpcepdalegmmaaDoor
open Go.RowKit Go.ChangeShapes Go.WideShapes Go.Deep

/-- What each place holds, gathered into a list. -/
theorem kvs_of {w : World} {a : Addr} {n : Nat} (ha : a.block < w.heap.size) (h : ∀ i, i < n → ∃ f : Kv, w.cell? (a.add (i * 2)) = some (.string f.key) ∧ w.cell? (a.add (i * 2 + 1)) = some (.string f.val) ∧ f.key.size ≤ maxLen ∧ f.val.size ≤ maxLen) :
    ∃ fs : List Kv, KvS w w.heap.size (some a) n fs ∧ ∀ f ∈ fs, f.key.size ≤ maxLen ∧ f.val.size ≤ maxLen := by
  have h' : ∀ i : Nat, ∃ f : Kv, i < n → (w.cell? (a.add (i * 2)) = some (.string f.key) ∧ w.cell? (a.add (i * 2 + 1)) = some (.string f.val) ∧ f.key.size ≤ maxLen ∧ f.val.size ≤ maxLen) := fun i => by
    by_cases hi : i < n
    · obtain ⟨f, hf⟩ := h i hi
      exact ⟨f, fun _ => hf⟩
    · exact ⟨⟨⟨#[]⟩, ⟨#[]⟩⟩, fun h => absurd h hi⟩
  refine ⟨(List.range n).map fun i => Classical.choose (h' i), ⟨?_, fun h0 => ⟨a, rfl, ha, fun j u hu => ?_⟩⟩, fun f hf => ?_⟩
  · rw [kvCells_length]; simp
  · have hl : j < n * 2 := by
      have := (List.getElem?_eq_some_iff.1 hu).1
      rw [kvCells_length] at this
      simpa using this
    obtain ⟨i, r, hr, rfl⟩ : ∃ i r, r < 2 ∧ j = i * 2 + r := ⟨j / 2, j % 2, by omega, by omega⟩
    have hi : i < n := by omega
    have hfi : ((List.range n).map fun i => Classical.choose (h' i))[i]? = some (Classical.choose (h' i)) := by
      rw [List.getElem?_map, List.getElem?_range hi]
      rfl
    obtain ⟨c0, c1⟩ := kvCells_at _ _ _ hfi
    obtain ⟨k0, k1, _⟩ := Classical.choose_spec (h' i) hi
    have hr3 : r = 0 ∨ r = 1 := by omega
    rcases hr3 with rfl | rfl
    · exact k0.trans (c0.symm.trans hu)
    · exact k1.trans (c1.symm.trans hu)
  · obtain ⟨i, hi, rfl⟩ := List.mem_map.1 hf
    exact (Classical.choose_spec (h' i) (List.mem_range.1 hi)).2.2

section
variable {H : Type} {enc : TypeId × Value → H} {w : World} {base : Nat} {held : Bool}
/-- A slice of properties that came in reads as properties. -/
theorem kvs_in {fuel : Nat} {A : Option Addr} {n c : Nat} {x : DataW H × List MemPlace} (h : DataW.trod enc Tryd.prog w base (fun _ => true) held fuel 22 [.slice A n c] = some x) :
    ∃ fs : List Kv, KvS w w.heap.size A n fs ∧ n ≤ maxLen ∧ ∀ f ∈ fs, f.key.size ≤ maxLen ∧ f.val.size ≤ maxLen := by
  rcases open_slice_fields Tryd.underlying22 Tryd.underlying36 (by kernel_rfl) (by kernel_rfl) h with ⟨hcs, _⟩ | ⟨a, len, cap, m, D, Pl, hcs, _, hl, hm, hmm, _, hi⟩
  · simp at hcs
    obtain ⟨rfl, rfl, rfl⟩ := hcs
    exact ⟨[], Reads.none_, Nat.zero_le _, fun f hf => by cases hf⟩
  · simp at hcs
    obtain ⟨rfl, rfl, rfl⟩ := hcs
    by_cases h0 : n = 0
    · subst h0
      exact ⟨[], Reads.none_, Nat.zero_le _, fun f hf => by cases hf⟩
    · have hnm : n ≤ m := by rw [hmm]; split <;> omega
      have each : ∀ i, i < n → ∃ f : Kv, w.cell? (a.add (i * 2)) = some (.string f.key) ∧ w.cell? (a.add (i * 2 + 1)) = some (.string f.val) ∧ f.key.size ≤ maxLen ∧ f.val.size ≤ maxLen := by
        intro i hin
        obtain ⟨ys, nn, _, _, _, hf⟩ := hi i (by omega)
        obtain ⟨v0, y0, c0, _, t0⟩ := hf 0 _ rfl
        obtain ⟨v1, y1, c1, _, t1⟩ := hf 1 _ rfl
        obtain ⟨s0, e0, _, z0⟩ := DataW.trod_string Tryd.underlying9 t0
        obtain ⟨s1, e1, _, z1⟩ := DataW.trod_string Tryd.underlying9 t1
        simp only [List.cons.injEq, and_true] at e0 e1
        subst e0
        subst e1
        exact ⟨⟨s0, s1⟩, c0, c1, z0, z1⟩
      obtain ⟨f0, k0, _⟩ := each 0 (by omega)
      rw [Nat.zero_mul, Addr.add_zero'] at k0
      obtain ⟨fs, h1, h2⟩ := kvs_of (World.block_lt_of_cell? w a k0) each
      exact ⟨fs, h1, by omega, h2⟩
end
end Go.Proofs.YtkpcepdalegmmaaDoor
