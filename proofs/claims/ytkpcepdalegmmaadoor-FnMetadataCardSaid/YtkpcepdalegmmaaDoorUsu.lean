/- Properties: the usual names. -/
import Derived.Test.YtkpcepdalegmmaaDoorMcK
namespace Go.Proofs.YtkpcepdalegmmaaDoor
open Go.RowKit

theorem titleS_id : titleS idS = idS := by decide +kernel
theorem titleS_st : titleS stS = stS := by decide +kernel
theorem lt_id_st : ltK idS stS := by unfold ltK; decide +kernel
theorem good_key {fs : List Kv} (h : KvGood fs) (i j : Nat) (f g : Kv) (hij : i < j) (hf : fs[i]? = some f) (hg : fs[j]? = some g) : f.key ≠ g.key := by
  intro e
  have := good_lt h j i f g hij hf hg
  simp only [smallK, e] at this
  exact ltK_irrefl _ this
theorem not_lt_st_id : ¬ ltK stS idS := by unfold ltK; decide +kernel
theorem usual_cases {fs : List Kv} (h : KvGood fs) (hu : ∀ f ∈ fs, usualK f) : fs = [] ∨ (∃ v, fs = [⟨idS, v⟩]) ∨ (∃ v, fs = [⟨stS, v⟩]) ∨ ∃ v u, fs = [⟨idS, v⟩, ⟨stS, u⟩] := by
  match fs, h, hu with
  | [], _, _ => exact .inl rfl
  | [⟨k, v⟩], _, hu =>
    rcases hu _ (List.mem_cons_self ..) with e | e
    · simp only at e; subst e; exact .inr (.inl ⟨v, rfl⟩)
    · simp only at e; subst e; exact .inr (.inr (.inl ⟨v, rfl⟩))
  | [⟨k, v⟩, ⟨k2, v2⟩], h, hu =>
    have h1 := h.1.2 0 ⟨k, v⟩ ⟨k2, v2⟩ (by simp) rfl rfl
    have hl : ltK k k2 := h1.1
    rcases hu ⟨k, v⟩ (by simp) with e | e <;> rcases hu ⟨k2, v2⟩ (by simp) with e2 | e2 <;> simp only at e e2 <;> subst e <;> subst e2
    · exact absurd hl (ltK_irrefl _)
    · exact .inr (.inr (.inr ⟨v, v2, rfl⟩))
    · exact absurd hl not_lt_st_id
    · exact absurd hl (ltK_irrefl _)
  | a :: b :: c :: r, h, hu =>
    exfalso
    have n1 := good_key h 0 1 a b (by omega) rfl rfl
    have n2 := good_key h 0 2 a c (by omega) rfl rfl
    have n3 := good_key h 1 2 b c (by omega) rfl rfl
    rcases hu a (by simp) with ea | ea <;> rcases hu b (by simp) with eb | eb <;> rcases hu c (by simp) with ec | ec <;> rw [ea] at n1 n2 <;> rw [eb] at n1 n3 <;> rw [ec] at n2 n3 <;> first | exact n1 rfl | exact n2 rfl | exact n3 rfl
end Go.Proofs.YtkpcepdalegmmaaDoor
