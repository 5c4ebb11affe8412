/- Properties: a map that holds the properties as they stand; its names, collected and sorted; the usual names in small letters. -/
import Derived.Test.YtkpcepdalegmmaaDoorMdP
import Derived.Test.YtkpcepdalegmmaaDoorUsu
import Derived.Sort.KeysCollected
import Derived.Lib.Case
import Derived.Maps.OwnSet
namespace Go.Proofs.YtkpcepdalegmmaaDoor
open Go.RowKit
open Go.Maps (has IsMap)

def putX (D : DataW Unit) (kv : Kv) : DataW Unit := D.put (.string (keyL kv)) (.lit (.string kv.val.data.toList))
def mdX (kvs : List Kv) : DataW Unit := kvs.foldl putX (.map [])
theorem mdX_snoc (l : List Kv) (kv : Kv) : mdX (l ++ [kv]) = putX (mdX l) kv := by simp [mdX]
theorem foldx_has : ∀ (kvs : List Kv) (D : DataW Unit), IsMap D → IsMap (kvs.foldl putX D) ∧ ∀ k : List UInt8, has (kvs.foldl putX D) (.string k) = true ↔ (has D (.string k) = true ∨ ∃ kv ∈ kvs, keyL kv = k) := by
  intro kvs
  induction kvs with
  | nil => intro D hD; exact ⟨hD, fun k => by simp⟩
  | cons kv r ih =>
    intro D hD
    have h1 : IsMap (putX D kv) := hD.put _ _
    obtain ⟨h2, h3⟩ := ih (putX D kv) h1
    refine ⟨h2, fun k => ?_⟩
    rw [List.foldl_cons, h3 k]
    have h4 : has (putX D kv) (.string k) = true ↔ (has D (.string k) = true ∨ keyL kv = k) := by
      by_cases e : keyL kv = k
      · subst e
        have := Go.Maps.has_put_same (k := .string (keyL kv)) hD trivial (.lit (.string kv.val.data.toList))
        exact ⟨fun _ => .inr rfl, fun _ => this⟩
      · have := Go.Maps.has_put_other (D := D) (k := .string (keyL kv)) (k' := .string k) (fun h => e (by injection h with h; exact h.symm)) (.lit (.string kv.val.data.toList))
        unfold putX
        rw [this]
        exact ⟨.inl, fun h => h.resolve_right e⟩
    rw [h4]
    simp only [List.mem_cons, exists_eq_or_imp, or_assoc]
theorem foldx_at_other : ∀ (kvs : List Kv) (D : DataW Unit) (k : List UInt8) (z : DataW Unit), (∀ kv ∈ kvs, keyL kv ≠ k) → (kvs.foldl putX D).atKey (.string k) z = D.atKey (.string k) z := by
  intro kvs
  induction kvs with
  | nil => intro D k z _; rfl
  | cons kv r ih =>
    intro D k z h
    rw [List.foldl_cons, ih _ k z (fun x hx => h x (List.mem_cons_of_mem _ hx))]
    exact Go.Maps.atKey_put_other (fun e => h kv (List.mem_cons_self ..) (by injection e with e; exact e.symm)) _ _
theorem foldx_at : ∀ (kvs : List Kv) (D : DataW Unit), IsMap D → kvs.Pairwise (fun a b => keyL a ≠ keyL b) → ∀ kv ∈ kvs, ∀ z, (kvs.foldl putX D).atKey (.string (keyL kv)) z = .lit (.string kv.val.data.toList) := by
  intro kvs
  induction kvs with
  | nil => intro D _ _ kv h; cases h
  | cons kv0 r ih =>
    intro D hD hp kv hkv z
    rw [List.pairwise_cons] at hp
    rw [List.foldl_cons]
    rcases List.mem_cons.1 hkv with rfl | hkv
    · rw [foldx_at_other r _ _ z (fun x hx => (hp.1 x hx).symm)]
      exact Go.Maps.atKey_put_same (k := .string (keyL kv)) hD trivial _ _
    · exact ih _ (hD.put _ _) hp.2 kv hkv z
theorem mdX_has (kvs : List Kv) (k : List UInt8) : has (mdX kvs) (.string k) = true ↔ ∃ kv ∈ kvs, keyL kv = k := by
  have := (foldx_has kvs (.map []) ⟨[], rfl⟩).2 k
  rw [show has (.map [] : DataW Unit) (.string k) = false from rfl] at this
  unfold mdX
  simpa using this
/-- A name that has not come yet is not in the map. -/
theorem mdX_new {kvs : List Kv} {i : Nat} {kv : Kv} (hp : kvs.Pairwise (fun a b => keyL a ≠ keyL b)) (h : kvs[i]? = some kv) : has (mdX (kvs.take i)) (.string (keyL kv)) = false := by
  rw [Bool.eq_false_iff]
  intro hh
  obtain ⟨kv2, hm, e⟩ := (mdX_has _ _).1 hh
  obtain ⟨j, hj, rfl⟩ := List.mem_iff_getElem.1 hm
  rw [List.length_take] at hj
  rw [List.getElem_take] at e
  obtain ⟨hi, rfl⟩ := List.getElem?_eq_some_iff.1 h
  exact List.pairwise_iff_getElem.1 hp j i (by omega) hi (by omega) e
theorem mdX_at {kvs : List Kv} (hp : kvs.Pairwise (fun a b => keyL a ≠ keyL b)) {kv : Kv} (h : kv ∈ kvs) (z : DataW Unit) : (mdX kvs).atKey (.string (keyL kv)) z = .lit (.string kv.val.data.toList) :=
  foldx_at kvs (.map []) ⟨[], rfl⟩ hp kv h z
theorem keys_perm {kvs : List Kv} {ys : List (List UInt8)} {left : Lit → Bool} (hp : kvs.Pairwise (fun a b => keyL a ≠ keyL b)) (hC : Collected (mdX kvs) left ys) (hl : ∀ kl, left kl = false) : ys.Perm (kvs.map keyL) := by
  have nd : (kvs.map keyL).Nodup := by
    rw [List.nodup_iff_pairwise_ne, List.pairwise_map]
    exact hp
  refine (List.perm_ext_iff_of_nodup hC.1 nd).2 fun y => ?_
  rw [hC.2, mdX_has, List.mem_map]
  exact ⟨fun h => h.1, fun h => ⟨h, hl _⟩⟩
/-- Rising names, in whatever order they were collected, sort to themselves. -/
theorem keys_sorted {kvs : List Kv} {ys : List (List UInt8)} (h : ys.Perm (kvs.map keyL)) (hs : (kvs.map keyL).Pairwise (fun a b => a ≤ b)) : (ys.mergeSort fun x y => decide (x ≤ y)) = kvs.map keyL := by
  have e1 := mergeSort_of_perm h
  unfold leB at e1
  rw [e1]
  refine List.mergeSort_of_pairwise (hs.imp fun h => ?_)
  simpa using h
theorem le_id_st : idS.data.toList ≤ stS.data.toList := by decide +kernel
theorem usual_le {kvs : List Kv} (h : KvGood kvs) (hu : ∀ f ∈ kvs, usualK f) : (kvs.map keyL).Pairwise (fun a b => a ≤ b) := by
  rcases usual_cases h hu with rfl | ⟨v, rfl⟩ | ⟨v, rfl⟩ | ⟨v, u, rfl⟩
  · simp
  · simp
  · simp
  · simpa [keyL] using le_id_st
theorem good_apart {kvs : List Kv} (h : KvGood kvs) : kvs.Pairwise (fun a b => keyL a ≠ keyL b) := by
  rw [List.pairwise_iff_getElem]
  intro i j hi hj hij e
  exact good_key h i j _ _ hij (List.getElem?_eq_getElem hi) (List.getElem?_eq_getElem hj) (byteArray_eq e)
/-- A name in small letters. -/
def lowK (k : ByteArray) : List UInt8 := Go.Lib.toLowerA k.data.toList
theorem low_apart {a b : Kv} (ha : usualK a) (hb : usualK b) (h : a.key ≠ b.key) : lowK a.key ≠ lowK b.key := by
  have e1 : lowK idS ≠ lowK stS := by decide +kernel
  rcases ha with ea | ea <;> rcases hb with eb | eb <;> rw [ea, eb] at h ⊢
  · exact absurd rfl h
  · exact e1
  · exact e1.symm
  · exact absurd rfl h
/-- The names that have come, in small letters. -/
def lowD (ks : List Kv) : DataW Unit := Go.Maps.setOf (.agg []) (ks.map fun f => .string (lowK f.key))
theorem lowD_new {kvs : List Kv} {i : Nat} {kv : Kv} (hg : KvGood kvs) (hu : ∀ f ∈ kvs, usualK f) (h : kvs[i]? = some kv) : has (lowD (kvs.take i)) (.string (lowK kv.key)) = false := by
  unfold lowD
  rw [Go.Maps.has_setOf _ _ _ (by intro x hx; obtain ⟨f, _, rfl⟩ := List.mem_map.1 hx; trivial)]
  rw [Bool.eq_false_iff]
  intro hh
  rw [List.any_eq_true] at hh
  obtain ⟨x, hx, e⟩ := hh
  obtain ⟨f, hf, rfl⟩ := List.mem_map.1 hx
  obtain ⟨j, hj, rfl⟩ := List.mem_iff_getElem.1 hf
  rw [List.length_take] at hj
  rw [List.getElem_take] at e
  obtain ⟨hi, rfl⟩ := List.getElem?_eq_some_iff.1 h
  have h1 := good_key hg j i _ _ (by omega) (List.getElem?_eq_getElem (by omega)) (List.getElem?_eq_getElem hi)
  refine low_apart (hu _ (List.getElem_mem _)) (hu _ (List.getElem_mem _)) h1 ?_
  simpa [Lit.sameKey] using e
theorem lowD_snoc (l : List Kv) (kv : Kv) : lowD (l ++ [kv]) = (lowD l).put (.string (lowK kv.key)) (.agg []) := by
  unfold lowD
  rw [List.map_append]
  exact Go.Maps.setOf_snoc _ _ _
end Go.Proofs.YtkpcepdalegmmaaDoor
