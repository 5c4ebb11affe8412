/- Properties: the order of names; sorted lists. -/
import Derived.Test.YtkpcepdalegmmaaDoorKv1
namespace Go.Proofs.YtkpcepdalegmmaaDoor
open Go.RowKit

theorem less_irrefl : ∀ a : List UInt8, Op.bytesLess a a = false := by
  intro a
  induction a with
  | nil => rfl
  | cons x r ih => simp [Op.bytesLess, ih]
theorem less_cons (x y : UInt8) (a b : List UInt8) : Op.bytesLess (x :: a) (y :: b) = true ↔ x.toNat < y.toNat ∨ (x = y ∧ Op.bytesLess a b = true) := by
  simp [Op.bytesLess, UInt8.lt_iff_toNat_lt]
theorem less_trans : ∀ a b c : List UInt8, Op.bytesLess a b = true → Op.bytesLess b c = true → Op.bytesLess a c = true := by
  intro a
  induction a with
  | nil =>
    intro b c h1 h2
    cases c with
    | nil => cases b <;> simp [Op.bytesLess] at h2
    | cons z c => rfl
  | cons x a ih =>
    intro b c h1 h2
    cases b with
    | nil => simp [Op.bytesLess] at h1
    | cons y b =>
      cases c with
      | nil => simp [Op.bytesLess] at h2
      | cons z c =>
        rw [less_cons] at h1 h2 ⊢
        rcases h1 with h1 | ⟨rfl, h1⟩ <;> rcases h2 with h2 | ⟨rfl, h2⟩
        · exact .inl (by omega)
        · exact .inl h1
        · exact .inl h2
        · exact .inr ⟨rfl, ih _ _ h1 h2⟩
theorem less_total : ∀ a b : List UInt8, a ≠ b → Op.bytesLess a b = true ∨ Op.bytesLess b a = true := by
  intro a
  induction a with
  | nil =>
    intro b h
    cases b with
    | nil => exact absurd rfl h
    | cons y b => exact .inl rfl
  | cons x a ih =>
    intro b h
    cases b with
    | nil => exact .inr rfl
    | cons y b =>
      rw [less_cons, less_cons]
      by_cases hxy : x = y
      · subst hxy
        rcases ih b (fun e => h (by rw [e])) with h1 | h1
        · exact .inl (.inr ⟨rfl, h1⟩)
        · exact .inr (.inr ⟨rfl, h1⟩)
      · have : x.toNat ≠ y.toNat := fun e => hxy (UInt8.toNat_inj.1 e)
        rcases Nat.lt_or_gt_of_ne this with h1 | h1
        · exact .inl (.inl h1)
        · exact .inr (.inl h1)

/-- 'a > b' of two names. -/
def gtK (a b : ByteArray) : Bool := !(Op.bytesLess a.toList b.toList || a.toList == b.toList)
def ltK (a b : ByteArray) : Prop := Op.bytesLess a.toList b.toList = true
theorem gtK_iff (a b : ByteArray) : gtK a b = true ↔ ltK b a := by
  unfold gtK ltK
  simp only [Bool.not_eq_true', Bool.or_eq_false_iff, beq_eq_false_iff_ne]
  constructor
  · rintro ⟨h1, h2⟩
    rcases less_total _ _ h2 with h | h
    · rw [h1] at h; cases h
    · exact h
  · intro h
    refine ⟨?_, fun e => ?_⟩
    · cases h2 : Op.bytesLess a.toList b.toList
      · rfl
      · have := less_trans _ _ _ h2 h
        rw [less_irrefl] at this
        cases this
    · rw [e, less_irrefl] at h
      cases h
theorem ltK_trans {a b c : ByteArray} (h1 : ltK a b) (h2 : ltK b c) : ltK a c := less_trans _ _ _ h1 h2
theorem ltK_irrefl (a : ByteArray) : ¬ ltK a a := fun h => by unfold ltK at h; rw [less_irrefl] at h; cases h
/-- 'not greater' is handed on. -/
theorem notGt_trans {a b c : ByteArray} (h1 : gtK a b = false) (h2 : gtK b c = false) : gtK a c = false := by
  cases h : gtK a c
  · rfl
  · rw [gtK_iff] at h
    have n1 : ¬ ltK b a := fun e => by rw [(gtK_iff a b).2 e] at h1; cases h1
    have n2 : ¬ ltK c b := fun e => by rw [(gtK_iff b c).2 e] at h2; cases h2
    by_cases hab : a.toList = b.toList
    · exact absurd (by unfold ltK at h ⊢; rw [← hab]; exact h) n2
    · rcases less_total _ _ hab with e | e
      · exact absurd (ltK_trans h e) n2
      · exact absurd e n1

def SortedK (ys : List Kv) : Prop := ys.Pairwise fun f g => gtK f.key g.key = false
theorem ins_perm (ys : List Kv) (p : Kv) (a : Nat) : (ys.take a ++ (p :: ys.drop a)).Perm (ys ++ [p]) := by
  refine List.perm_middle.trans ?_
  rw [List.take_append_drop]
  exact (List.perm_append_singleton p ys).symm
theorem ins_sorted {ys : List Kv} {p : Kv} {a : Nat} (hs : SortedK ys) (hlo : ∀ f, 0 < a → ys[a - 1]? = some f → gtK f.key p.key = false) (hhi : ∀ j f, a ≤ j → ys[j]? = some f → gtK f.key p.key = true) (ha : a ≤ ys.length) :
    SortedK (ys.take a ++ (p :: ys.drop a)) := by
  have hs' : SortedK (ys.take a ++ ys.drop a) := by rw [List.take_append_drop]; exact hs
  unfold SortedK at hs' ⊢
  rw [List.pairwise_append] at hs' ⊢
  obtain ⟨h1, h2, h3⟩ := hs'
  refine ⟨h1, List.pairwise_cons.2 ⟨fun g hg => ?_, h2⟩, fun f hf g hg => ?_⟩
  · obtain ⟨j, hj, e⟩ := List.mem_iff_getElem.1 hg
    rw [List.getElem_drop] at e
    rw [List.length_drop] at hj
    have := hhi (a + j) g (by omega) (by rw [List.getElem?_eq_getElem (by omega), e])
    rw [gtK_iff] at this
    cases h : gtK p.key g.key
    · rfl
    · rw [gtK_iff] at h
      exact absurd (ltK_trans this h) (ltK_irrefl _)
  · rcases List.mem_cons.1 hg with rfl | hg
    · obtain ⟨j, hj, e⟩ := List.mem_iff_getElem.1 hf
      rw [List.getElem_take] at e
      rw [List.length_take] at hj
      have ha0 : 0 < a := by omega
      have hlast := hlo (ys[a - 1]'(by omega)) ha0 (List.getElem?_eq_getElem (by omega))
      by_cases hja : j = a - 1
      · subst hja
        rw [← e]
        exact hlast
      · have hp := List.pairwise_iff_getElem.1 hs j (a - 1) (by omega) (by omega) (by omega)
        rw [← e]
        exact notGt_trans hp hlast
    · exact h3 f hf g hg
/-- There is one sorted order of names that differ. -/
theorem sorted_unique : ∀ (l2 l1 : List Kv), l1.Perm l2 → l2.Pairwise (fun f g => ltK f.key g.key) → SortedK l1 → l1 = l2 := by
  intro l2
  induction l2 with
  | nil => intro l1 h _ _; exact h.eq_nil
  | cons y r2 ih =>
    intro l1 h hp hs
    cases l1 with
    | nil => exact absurd h.length_eq (by simp)
    | cons x r1 =>
      have hxy : x = y := by
        have hx : x ∈ y :: r2 := h.subset (List.mem_cons_self ..)
        have hy : y ∈ x :: r1 := h.symm.subset (List.mem_cons_self ..)
        rcases List.mem_cons.1 hx with e | hx
        · exact e
        · rcases List.mem_cons.1 hy with e | hy
          · exact e.symm
          · have l := (List.pairwise_cons.1 hp).1 x hx
            have g := (List.pairwise_cons.1 hs).1 y hy
            rw [(gtK_iff x.key y.key).2 l] at g
            cases g
      subst hxy
      rw [ih r1 (List.Perm.cons_inv h) (List.pairwise_cons.1 hp).2 (List.pairwise_cons.1 hs).2]
end Go.Proofs.YtkpcepdalegmmaaDoor
