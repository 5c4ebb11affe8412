/- Frames: proper frames are a stream. -/
import Derived.Test.YtkpcepdalegmmaaPf1
namespace Go.Proofs.Ytkpcepdalegmmaa
open Go.RowKit

theorem encs_cons' (f : Fr) (l : List Fr) (p : List UInt8) : encs (f :: l) ++ p = encF f ++ (encs l ++ p) := by simp [encs]
theorem keysOf_cons (f : Fr) (m : List Fr) (hm : m ≠ []) (hc : f.cmd = false) : keysOf (f :: m) = (m.any Fr.cmd, true, f.body) :: keysOf m := by
  have hl : 0 < m.length := List.length_pos_iff.2 hm
  unfold keysOf
  rw [List.length_cons, List.range_succ_eq_map, List.map_cons, List.map_map]
  congr 1
  · simp [hc, hl]
  · apply List.map_congr_left
    intro i _
    simp [hc]

/-- Within a message. -/
theorem goodIn (l : List Fr) (hw : ∀ f ∈ l, wfF f) (h : goodRun true l = true) : ∃ m r, l = m ++ r ∧ m ≠ [] ∧ goodRun false r = true ∧ m.any Fr.cmd = false ∧ m.map keyOf = keysOf m ∧ ∀ p, Msgs (encs r ++ p) true (encs l ++ p) m true := by
  induction l with
  | nil => simp [goodRun] at h
  | cons f l ih =>
    simp only [goodRun, Bool.and_eq_true, Bool.not_eq_true'] at h
    have hc : f.cmd = false := by
      have := h.1
      unfold badF at this
      cases hcm : f.cmd
      · rfl
      · rw [hcm] at this; simp at this
    have hf := hw f (List.mem_cons_self ..)
    cases hm : f.more
    · rw [hm] at h
      refine ⟨[f], l, rfl, by simp, h.2, by simp [hc], by simp [keysOf, keyOf, hc, hm], fun p => ?_⟩
      rw [encs_cons']
      refine Msgs.step f _ [] true hf ?_
      rw [hm]
      exact Msgs.done
    · rw [hm] at h
      obtain ⟨m, r, rfl, hne, hr, hac, hk, hms⟩ := ih (fun x hx => hw x (List.mem_cons_of_mem _ hx)) h.2
      refine ⟨f :: m, r, rfl, by simp, hr, by simp [hc, hac], ?_, fun p => ?_⟩
      · rw [keysOf_cons f m hne hc, List.map_cons, hk, hac]
        simp [keyOf, hc, hm]
      · rw [encs_cons']
        refine Msgs.step f _ m true hf ?_
        rw [hm]
        exact hms p
theorem run_out (f : Fr) (l : List Fr) (hw : ∀ x ∈ f :: l, wfF x) (h : goodRun false (f :: l) = true) : ∃ m r, f :: l = m ++ r ∧ m ≠ [] ∧ goodRun false r = true ∧ m.map keyOf = keysOf m ∧ ∀ p, Msgs (encs r ++ p) true (encs (f :: l) ++ p) m true := by
  simp only [goodRun, Bool.and_eq_true, Bool.not_eq_true'] at h
  have hf := hw f (List.mem_cons_self ..)
  cases hm : f.more
  · rw [hm] at h
    refine ⟨[f], l, rfl, by simp, h.2, by simp [keysOf, keyOf, hm], fun p => ?_⟩
    rw [encs_cons']
    refine Msgs.step f _ [] true hf ?_
    rw [hm]
    exact Msgs.done
  · have hc : f.cmd = false := by
      have := h.1
      unfold badF at this
      cases hcm : f.cmd
      · rfl
      · rw [hcm, hm] at this; simp at this
    rw [hm] at h
    obtain ⟨m, r, rfl, hne, hr, hac, hk, hms⟩ := goodIn l (fun x hx => hw x (List.mem_cons_of_mem _ hx)) h.2
    refine ⟨f :: m, r, rfl, by simp, hr, ?_, fun p => ?_⟩
    · rw [keysOf_cons f m hne hc, List.map_cons, hk, hac]
      simp [keyOf, hc, hm]
    · rw [encs_cons']
      refine Msgs.step f _ m true hf ?_
      rw [hm]
      exact hms p
theorem stream_ok : ∀ (k : Nat) (l : List Fr), l.length ≤ k → (∀ x ∈ l, wfF x) → goodRun false l = true → ∃ ms, Stream (encs l) ms true ∧ l.map keyOf = keysAll ms := by
  intro k
  induction k with
  | zero =>
    intro l hl hw h
    have : l = [] := List.eq_nil_of_length_eq_zero (by omega)
    subst this
    exact ⟨[], Stream.nil, rfl⟩
  | succ k ih =>
    intro l hl hw h
    cases l with
    | nil => exact ⟨[], Stream.nil, rfl⟩
    | cons f l =>
      obtain ⟨m, r, e, hne, hr, hk, hms⟩ := run_out f l hw h
      have hml : 0 < m.length := List.length_pos_iff.2 hne
      rw [e] at hl hw ⊢
      rw [List.length_append] at hl
      obtain ⟨ms, hs, hk2⟩ := ih r (by omega) (fun x hx => hw x (List.mem_append_right _ hx)) hr
      have h1 := hms []
      rw [e, List.append_nil, List.append_nil] at h1
      exact ⟨m :: ms, Stream.msg _ _ _ _ _ h1 hs, by rw [List.map_append, hk, hk2]; simp [keysAll]⟩
end Go.Proofs.Ytkpcepdalegmmaa
