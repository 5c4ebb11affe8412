/- Properties: what a map holds once properties have been read into it. -/
import Derived.Test.YtkpcepdalegmmaaDoorUnk
import Derived.Sort.KeysCollected
namespace Go.Proofs.YtkpcepdalegmmaaDoor
open Go.RowKit
open Go.Maps (has IsMap)

def nmK (kv : Kv) : Kv := ⟨nameS kv.key, kv.val⟩
def keyL (kv : Kv) : List UInt8 := kv.key.data.toList
theorem foldl_has : ∀ (kvs : List Kv) (D : DataW Unit), IsMap D → IsMap (kvs.foldl putKv D) ∧ ∀ k : List UInt8, has (kvs.foldl putKv D) (.string k) = true ↔ (has D (.string k) = true ∨ ∃ kv ∈ kvs, keyL (nmK kv) = k) := by
  intro kvs
  induction kvs with
  | nil => intro D hD; exact ⟨hD, fun k => by simp⟩
  | cons kv r ih =>
    intro D hD
    have h1 : IsMap (putKv D kv) := hD.put _ _
    obtain ⟨h2, h3⟩ := ih (putKv D kv) h1
    refine ⟨h2, fun k => ?_⟩
    rw [List.foldl_cons, h3 k]
    have h4 : has (putKv D kv) (.string k) = true ↔ (has D (.string k) = true ∨ keyL (nmK kv) = k) := by
      by_cases e : keyL (nmK kv) = k
      · subst e
        have := Go.Maps.has_put_same (k := .string (nameS kv.key).data.toList) hD trivial (.lit (.string kv.val.data.toList))
        exact ⟨fun _ => .inr rfl, fun _ => this⟩
      · have := Go.Maps.has_put_other (D := D) (k := .string (nameS kv.key).data.toList) (k' := .string k) (fun h => e (by injection h with h; exact h.symm)) (.lit (.string kv.val.data.toList))
        unfold putKv
        rw [this]
        exact ⟨.inl, fun h => h.resolve_right e⟩
    rw [h4]
    simp only [List.mem_cons, exists_eq_or_imp, or_assoc]
theorem foldl_at_other : ∀ (kvs : List Kv) (D : DataW Unit) (k : List UInt8) (z : DataW Unit), (∀ kv ∈ kvs, keyL (nmK kv) ≠ k) → (kvs.foldl putKv D).atKey (.string k) z = D.atKey (.string k) z := by
  intro kvs
  induction kvs with
  | nil => intro D k z _; rfl
  | cons kv r ih =>
    intro D k z h
    rw [List.foldl_cons, ih _ k z (fun x hx => h x (List.mem_cons_of_mem _ hx))]
    exact Go.Maps.atKey_put_other (fun e => h kv (List.mem_cons_self ..) (by injection e with e; exact e.symm)) _ _
theorem foldl_at : ∀ (kvs : List Kv) (D : DataW Unit), IsMap D → kvs.Pairwise (fun a b => keyL (nmK a) ≠ keyL (nmK b)) → ∀ kv ∈ kvs, ∀ z, (kvs.foldl putKv D).atKey (.string (keyL (nmK kv))) z = .lit (.string kv.val.data.toList) := by
  intro kvs
  induction kvs with
  | nil => intro D _ _ kv h; cases h
  | cons kv0 r ih =>
    intro D hD hp kv hkv z
    rw [List.pairwise_cons] at hp
    rw [List.foldl_cons]
    rcases List.mem_cons.1 hkv with rfl | hkv
    · rw [foldl_at_other r _ _ z (fun x hx => (hp.1 x hx).symm)]
      exact Go.Maps.atKey_put_same (k := .string (keyL (nmK kv))) hD trivial _ _
    · exact ih _ (hD.put _ _) hp.2 kv hkv z
theorem byteArray_eq {a b : ByteArray} (h : a.data.toList = b.data.toList) : a = b := Go.WideShapes.bytes_inj h
theorem kv_eq {a b : Kv} (h1 : keyL a = keyL b) (h2 : a.val.data.toList = b.val.data.toList) : a = b := by
  obtain ⟨k, v⟩ := a
  obtain ⟨k', v'⟩ := b
  have e1 : k = k' := byteArray_eq h1
  have e2 : v = v' := byteArray_eq h2
  rw [e1, e2]
/-- What has been collected in whatever order: a permutation. -/
theorem collected_perm {kvs ys : List Kv} {left : Lit → Bool} (hp : kvs.Pairwise (fun a b => keyL (nmK a) ≠ keyL (nmK b))) (hC : Collected (mdOf kvs) left (ys.map keyL)) (hat : ∀ y ∈ ys, ∀ z, (mdOf kvs).atKey (.string (keyL y)) z = .lit (.string y.val.data.toList))
    (hl : ∀ kl, left kl = false) : ys.Perm (kvs.map nmK) := by
  have hM : IsMap (.map [] : DataW Unit) := ⟨[], rfl⟩
  have hh : ∀ k : List UInt8, has (mdOf kvs) (.string k) = true ↔ ∃ kv ∈ kvs, keyL (nmK kv) = k := fun k => by
    have := (foldl_has kvs (.map []) hM).2 k
    rw [show has (.map [] : DataW Unit) (.string k) = false from rfl] at this
    unfold mdOf
    simpa using this
  have ha := foldl_at kvs (.map []) hM hp
  have nd1 : ys.Nodup := by
    have := hC.1
    rw [List.nodup_iff_pairwise_ne, List.pairwise_map] at this
    exact List.nodup_iff_pairwise_ne.2 (this.imp fun h e => h (by rw [e]))
  have nd2 : (kvs.map nmK).Nodup := by
    rw [List.nodup_iff_pairwise_ne, List.pairwise_map]
    exact hp.imp fun h e => h (by rw [e])
  refine (List.perm_ext_iff_of_nodup nd1 nd2).2 fun y => ?_
  constructor
  · intro hy
    have h1 : keyL y ∈ ys.map keyL := List.mem_map.2 ⟨y, hy, rfl⟩
    obtain ⟨h2, _⟩ := (hC.2 _).1 h1
    obtain ⟨kv, hkv, e⟩ := (hh _).1 h2
    have h3 := hat y hy (.map [])
    have h4 := ha kv hkv (.map [])
    rw [e] at h4
    have h5 := h3.symm.trans h4
    refine List.mem_map.2 ⟨kv, hkv, kv_eq e ?_⟩
    injection h5 with h5
    injection h5 with h5
    exact h5.symm
  · intro hy
    obtain ⟨kv, hkv, rfl⟩ := List.mem_map.1 hy
    have h1 := (hC.2 (keyL (nmK kv))).2 ⟨(hh _).2 ⟨kv, hkv, rfl⟩, hl _⟩
    obtain ⟨y, hy, e⟩ := List.mem_map.1 h1
    have h3 := hat y hy (.map [])
    have h4 := ha kv hkv (.map [])
    rw [e] at h3
    have h5 := h3.symm.trans h4
    have : y = nmK kv := kv_eq e (by
      injection h5 with h5
      injection h5 with h5)
    rw [← this]
    exact hy
end Go.Proofs.YtkpcepdalegmmaaDoor
