/- Frames: bytes that end within the last frame are no stream. -/
import Derived.Test.YtkpcepdalegmmaaPf1
namespace Go.Proofs.Ytkpcepdalegmmaa
open Go.RowKit

theorem encs_cons (f : Fr) (l : List Fr) (p : List UInt8) : encs (f :: l) ++ p = encF f ++ (encs l ++ p) := by simp [encs]

theorem part (l : List Fr) (hw : ∀ f ∈ l, wfF f) :
    (∃ m r, l = m ++ r ∧ m ≠ [] ∧ ∀ p, Msgs (encs r ++ p) true (encs l ++ p) m true) ∨ (∀ f p, wfF f → CutOf f p → ∀ rest, ∃ m, Msgs rest true (encs l ++ p) m false) := by
  induction l with
  | nil => exact .inr fun f p hf hc rest => ⟨[], Msgs.cut f _ hf (by simpa [encs] using hc)⟩
  | cons f l ih =>
    have hf := hw f (List.mem_cons_self ..)
    cases hm : f.more
    · refine .inl ⟨[f], l, rfl, by simp, fun p => ?_⟩
      rw [encs_cons]
      refine Msgs.step f _ [] true hf ?_
      rw [hm]
      exact Msgs.done
    · rcases ih (fun x hx => hw x (List.mem_cons_of_mem _ hx)) with ⟨m, r, rfl, _, h⟩ | h
      · refine .inl ⟨f :: m, r, rfl, by simp, fun p => ?_⟩
        rw [encs_cons]
        refine Msgs.step f _ m true hf ?_
        rw [hm]
        exact h p
      · refine .inr fun g p hg hc rest => ?_
        obtain ⟨m, h2⟩ := h g p hg hc rest
        refine ⟨f :: m, ?_⟩
        rw [encs_cons]
        refine Msgs.step f _ m false hf ?_
        rw [hm]
        exact h2

theorem stream_cut (f : Fr) (p : List UInt8) (hf : wfF f) (hc : CutOf f p) (hp : p ≠ []) : ∀ (k : Nat) (l : List Fr), l.length ≤ k → (∀ x ∈ l, wfF x) → ∃ ms, Stream (encs l ++ p) ms false := by
  intro k
  induction k with
  | zero =>
    intro l hl hw
    have : l = [] := List.eq_nil_of_length_eq_zero (by omega)
    subst this
    exact ⟨[], Stream.bad _ [] [] (by simp [encs, hp]) (Msgs.cut f _ hf (by simpa [encs] using hc))⟩
  | succ k ih =>
    intro l hl hw
    rcases part l hw with ⟨m, r, rfl, hm, h⟩ | h
    · have hml : 0 < m.length := List.length_pos_iff.2 hm
      rw [List.length_append] at hl
      obtain ⟨ms, hs⟩ := ih r (by omega) (fun x hx => hw x (List.mem_append_right _ hx))
      exact ⟨m :: ms, Stream.msg _ _ _ _ _ (h p) hs⟩
    · obtain ⟨m, h2⟩ := h f p hf hc []
      exact ⟨[], Stream.bad _ [] m (by simp [hp]) h2⟩

/-- The bytes of frames, n of the last frame's bytes struck. -/
theorem cut_bytes (l : List Fr) (f : Fr) (n : Nat) (h1 : 1 ≤ n) (h2 : n < (encF f).length) :
    (encs (l ++ [f])).take ((encs (l ++ [f])).length - n) = encs l ++ (encF f).take ((encF f).length - n) ∧ (encF f).take ((encF f).length - n) ≠ [] ∧ CutOf f ((encF f).take ((encF f).length - n)) := by
  have e : encs (l ++ [f]) = encs l ++ encF f := by simp [encs]
  refine ⟨?_, ?_, ?_, ?_⟩
  · rw [e, List.length_append, List.take_append, List.take_of_length_le (by omega)]
    congr 2
    omega
  · intro h
    have := congrArg List.length h
    rw [List.length_take] at this
    simp at this
    omega
  · rw [List.length_take]
    omega
  · rw [List.length_take, Nat.min_eq_left (by omega)]
end Go.Proofs.Ytkpcepdalegmmaa
