/- Properties that are compared: plain facts, and what the law wants of them. -/
import Derived.Test.YtkpcepdalegmmaaDoorPma
import Derived.Test.YtkpcepdalegmmaaDoorKv2
import Derived.Test.YtkpcepdalegmmaaDoorKv3
import Derived.Test.YtkpcepdalegmmaaDoorOrd
import Derived.Test.YtkpcepdalegmmaaDoorLow
namespace Go.Proofs.YtkpcepdalegmmaaDoor
open Go.RowKit

theorem KvS.of_own {w : World} {base n c : Nat} {A : Option Addr} {fs : List Kv} {t : TypeId} (h : w.ownsRow base t 2 (.slice A n c) n (kvCells fs)) : KvS w w.heap.size A n fs ∧ n ≤ c := by
  refine ⟨Reads.of_own h, ?_⟩
  rcases h.2 with ⟨hv, rfl⟩ | ⟨g, cap, cur, hv, _, _, r⟩
  · exact Nat.zero_le _
  · injection hv with _ _ hc
    rw [hc]
    exact r.1
theorem kvFits_parts {n : Nat} {fs : List Kv} (h : (decide (n ≤ 2147483647) && fs.all kvSmall) = true) : n ≤ 2147483647 ∧ ∀ f ∈ fs, f.key.size ≤ 2147483647 ∧ f.val.size ≤ 2147483647 := by
  simp only [Bool.and_eq_true, decide_eq_true_eq, List.all_eq_true, kvSmall] at h
  exact h
theorem good_parts {fs : List Kv} (h : KvGood fs) : (∀ f ∈ fs, kvFit f) ∧ fs.length ≤ 10 := by
  refine ⟨fun f hf => ?_, h.2⟩
  obtain ⟨i, hi, e⟩ := List.mem_iff_getElem.1 hf
  have h1 := h.1.1 i f hi (by rw [List.getElem?_eq_getElem hi, e])
  have h2 := h1.1
  simp only [nameOk, Bool.and_eq_true, decide_eq_true_eq] at h2
  exact ⟨h2.1.2, h1.2.1, h1.2.2⟩
theorem encKVs_le {fs : List Kv} (h : ∀ f ∈ fs, kvFit f) : (encKVs fs).length ≤ 405 * fs.length := by
  induction fs with
  | nil => simp [encKVs]
  | cons f r ih =>
    have h1 := h f (List.mem_cons_self ..)
    have h2 := ih fun x hx => h x (List.mem_cons_of_mem _ hx)
    have e : encKVs (f :: r) = encKV f ++ encKVs r := by simp [encKVs]
    rw [e, List.length_append, List.length_cons, encKV_length]
    have := h1.2.1
    have := h1.2.2
    omega
theorem smallB_out (a : Bool) (c : UInt8) : smallB (titleOut a c) = smallB c := by
  unfold titleOut
  split
  · rename_i h
    simp only [isLow, Bool.and_eq_true, decide_eq_true_eq] at h
    have e : (c - 32).toNat = c.toNat - 32 := by rw [UInt8.toNat_sub_of_le _ _ (by rw [UInt8.le_iff_toNat_le]; simp; omega)]; rfl
    unfold smallB
    rw [if_pos (by omega), if_neg (by omega), UInt8.sub_add_cancel]
  · rfl
theorem smallL_run (l : List UInt8) : ∀ a b, smallL (titleRun a b l) = smallL l := by
  induction l with
  | nil => intro a b; rfl
  | cons c r ih =>
    intro a b
    have h := ih (titleIn a b c) (isMid c)
    simp only [smallL] at h
    simp only [titleRun, smallL, List.map_cons, smallB_out, h]
theorem smallL_titleL (l : List UInt8) : smallL (titleL l) = smallL l := smallL_run l _ _
theorem smallK_nmK (kv : Kv) : smallK (nmK kv) = smallK kv := by
  simp only [smallK, nmK, nameS, titleS, smallL_titleL]
theorem good_lt {fs : List Kv} (h : KvGood fs) : ∀ (j i : Nat) (f g : Kv), i < j → fs[i]? = some f → fs[j]? = some g → ltK (smallK f).key (smallK g).key := by
  intro j
  induction j with
  | zero => intro i f g hi; omega
  | succ j ih =>
    intro i f g hi hf hg
    have hlt : j + 1 < fs.length := (List.getElem?_eq_some_iff.1 hg).1
    have hm : fs[j]? = some fs[j] := List.getElem?_eq_getElem (by omega)
    have h1 : ltK (smallK fs[j]).key (smallK g).key := (h.1.2 j _ g hlt hm hg).2
    by_cases e : i = j
    · subst e
      rw [hm] at hf
      cases hf
      exact h1
    · exact ltK_trans (ih i f _ (by omega) hf hm) h1
theorem good_rising {fs : List Kv} (h : KvGood fs) : (fs.map smallK).Pairwise fun f g => ltK f.key g.key := by
  rw [List.pairwise_map, List.pairwise_iff_getElem]
  intro i j hi hj hij
  exact good_lt h j i _ _ hij (List.getElem?_eq_getElem hi) (List.getElem?_eq_getElem hj)
theorem good_names {fs : List Kv} (h : KvGood fs) : fs.Pairwise fun a b => keyL (nmK a) ≠ keyL (nmK b) := by
  have h1 := good_rising h
  rw [List.pairwise_map] at h1
  refine h1.imp fun {a b} hlt e => ?_
  have e2 : (smallK a).key = (smallK b).key := by
    rw [← smallK_nmK a, ← smallK_nmK b]
    simp only [keyL] at e
    simp only [smallK, e]
  rw [e2] at hlt
  exact ltK_irrefl _ hlt
theorem good_ascii {fs : List Kv} (h : KvGood fs) : ∀ kv ∈ fs, kv.key.data.toList.all asciiB = true := by
  intro f hf
  obtain ⟨i, hi, e⟩ := List.mem_iff_getElem.1 hf
  have h1 := (h.1.1 i f hi (by rw [List.getElem?_eq_getElem hi, e])).1
  simp only [nameOk, Bool.and_eq_true] at h1
  rw [List.all_eq_true]
  intro c hc
  have h2 := (List.all_eq_true.1 h1.1.1) c hc
  simp only [nameByte, Bool.or_eq_true, decide_eq_true_eq, beq_iff_eq] at h2
  simp only [asciiB, decide_eq_true_eq]
  omega
/-- Sorted, the names' letters small: the same of both. -/
theorem sorted_back {fs zs ys : List Kv} (h : KvGood fs) (hz : zs.Perm (fs.map nmK)) (hy : ys.Perm (zs.map smallK)) (hs : SortedK ys) : ys = fs.map smallK := by
  refine sorted_unique _ _ (hy.trans ?_) (good_rising h) hs
  have := hz.map smallK
  rw [List.map_map] at this
  have e : smallK ∘ nmK = smallK := funext smallK_nmK
  rw [e] at this
  exact this
theorem sorted_fore {fs ys : List Kv} (h : KvGood fs) (hy : ys.Perm (fs.map smallK)) (hs : SortedK ys) : ys = fs.map smallK :=
  sorted_unique _ _ hy (good_rising h) hs
end Go.Proofs.YtkpcepdalegmmaaDoor
