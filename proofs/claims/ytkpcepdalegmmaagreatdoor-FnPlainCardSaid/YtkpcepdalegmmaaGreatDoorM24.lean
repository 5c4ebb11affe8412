/- Parts of a proof, laid behind one another: Properties: spec.Properties. Properties: spec.Lowered, spec.Usual. Properties that are compared: plain facts, and what the law wants of them. Properties: the usual names. Properties: a map that holds the properties as they stand; its names, collected and sorted; the usual names in small letters. -/
import Derived.Test.YtkpcepdalegmmaaGreatDoorM12
import Derived.Test.YtkpcepdalegmmaaGreatDoorM23
import Derived.Test.YtkpcepdalegmmaaGreatDoorM10
import Derived.Deep.QuietTactic
import Derived.BigQuiet
import Derived.Deep.RegionHeld3
import Derived.Test.YtkpcepdalegmmaaGreatDoorM03
import Derived.WideShapes
import Derived.Sort.KeysCollected
import Derived.Lib.Case
import Derived.Maps.OwnSet
/-! Properties: spec.Properties. -/
namespace Go.Proofs.YtkpcepdalegmmaaGreatDoor
open Go.RowKit

def smallS (s : ByteArray) : ByteArray := ⟨(smallL s.data.toList).toArray⟩
def kvLess (a b : ByteArray) : Bool := Op.bytesLess a.toList b.toList
def kvOne (f : Kv) : Prop := nameOk f.key = true ∧ f.key.size ≤ 100 ∧ f.val.size ≤ 300
def kvTwo (f g : Kv) : Prop := kvLess f.key g.key = true ∧ kvLess (smallS f.key) (smallS g.key) = true
/-- What is known of the first k properties. -/
def KvUpto (fs : List Kv) (k : Nat) : Prop := (∀ i f, i < k → fs[i]? = some f → kvOne f) ∧ ∀ i f g, i + 1 < k → fs[i]? = some f → fs[i + 1]? = some g → kvTwo f g
/-- Properties that are compared. -/
def KvGood (fs : List Kv) : Prop := KvUpto fs fs.length ∧ fs.length ≤ 10

theorem KvUpto.zero (fs : List Kv) : KvUpto fs 0 := ⟨fun i f h => by omega, fun i f g h => by omega⟩
theorem KvUpto.next {fs : List Kv} {k : Nat} {f : Kv} (h : KvUpto fs k) (hf : fs[k]? = some f) (h1 : kvOne f) (h2 : ∀ g, 0 < k → fs[k - 1]? = some g → kvTwo g f) : KvUpto fs (k + 1) := by
  refine ⟨fun i g hi hg => ?_, fun i g g' hi hg hg' => ?_⟩
  · by_cases e : i = k
    · subst e
      rw [hf] at hg
      cases hg
      exact h1
    · exact h.1 i g (by omega) hg
  · by_cases e : i + 1 = k
    · subst e
      rw [hf] at hg'
      cases hg'
      exact h2 g (by omega) hg
    · exact h.2 i g g' (by omega) hg hg'
/-- What Properties answers. -/
def Told (w : World) (fs : List Kv) (e : Ending) (w' : World) : Prop := ∃ b : Bool, e = .returned (.bool b) ∧ (b = true → KvGood fs) ∧ Below w.heap.size w w'

end Go.Proofs.YtkpcepdalegmmaaGreatDoor

/-! Properties: spec.Lowered, spec.Usual. -/
namespace Go.Proofs.YtkpcepdalegmmaaGreatDoor
open Go.RowKit

def smallK (f : Kv) : Kv := ⟨⟨(smallL f.key.data.toList).toArray⟩, f.val⟩
theorem map_snoc {α β : Type} (g : α → β) (l : List α) (k : Nat) (x : α) (h : l[k]? = some x) : (l.take (k + 1)).map g = (l.take k).map g ++ [g x] := by
  obtain ⟨h1, h2⟩ := List.getElem?_eq_some_iff.1 h
  rw [List.take_succ_eq_append_getElem h1, h2, List.map_append]
  rfl

def idS : ByteArray := ⟨#[73, 100, 101, 110, 116, 105, 116, 121]⟩
def stS : ByteArray := ⟨#[83, 111, 99, 107, 101, 116, 45, 84, 121, 112, 101]⟩
theorem eq_toList {a : ByteArray} {l : List UInt8} (h : a.toList = l) : a = ⟨l.toArray⟩ := by
  rw [ByteArray.toList_eq] at h
  exact Go.WideShapes.bytes_inj (by rw [h])
def usualK (f : Kv) : Prop := f.key = idS ∨ f.key = stS
/-- What Usual answers. -/
def ToldU (w : World) (fs : List Kv) (e : Ending) (w' : World) : Prop := ∃ b : Bool, e = .returned (.bool b) ∧ (b = true → ∀ f ∈ fs, usualK f) ∧ Below w.heap.size w w'
end Go.Proofs.YtkpcepdalegmmaaGreatDoor

/-! Properties that are compared: plain facts, and what the law wants of them. -/
namespace Go.Proofs.YtkpcepdalegmmaaGreatDoor
open Go.RowKit

theorem KvS.of_own {w : World} {base n c : Nat} {A : Option Addr} {fs : List Kv} {t : TypeId} (h : w.ownsRow base t 2 (.slice A n c) n (kvCells fs)) : KvS w w.heap.size A n fs ∧ n ≤ c := by
  refine ⟨Reads.of_own h, ?_⟩
  rcases h.2 with ⟨hv, rfl⟩ | ⟨g, cap, cur, hv, _, _, r⟩
  · exact Nat.zero_le _
  · injection hv with _ _ hc
    rw [hc]
    exact r.1
theorem kvFits_parts {n : Nat} {fs : List Kv} (h : (decide (n ≤ 2147483647) && fs.all kvSmall) = true) : n ≤ 2147483647 ∧ ∀ f ∈ fs, f.key.size ≤ 2147483647 ∧ f.val.size ≤ 2147483647 := by
  simp only [Bool.and_eq_true, decide_eq_true_eq, List.all_eq_true, kvSmall] at h
  exact h
theorem good_parts {fs : List Kv} (h : KvGood fs) : (∀ f ∈ fs, kvFit f) ∧ fs.length ≤ 10 := by
  refine ⟨fun f hf => ?_, h.2⟩
  obtain ⟨i, hi, e⟩ := List.mem_iff_getElem.1 hf
  have h1 := h.1.1 i f hi (by rw [List.getElem?_eq_getElem hi, e])
  have h2 := h1.1
  simp only [nameOk, Bool.and_eq_true, decide_eq_true_eq] at h2
  exact ⟨h2.1.2, h1.2.1, h1.2.2⟩
theorem encKVs_le {fs : List Kv} (h : ∀ f ∈ fs, kvFit f) : (encKVs fs).length ≤ 405 * fs.length := by
  induction fs with
  | nil => simp [encKVs]
  | cons f r ih =>
    have h1 := h f (List.mem_cons_self ..)
    have h2 := ih fun x hx => h x (List.mem_cons_of_mem _ hx)
    have e : encKVs (f :: r) = encKV f ++ encKVs r := by simp [encKVs]
    rw [e, List.length_append, List.length_cons, encKV_length]
    have := h1.2.1
    have := h1.2.2
    omega
theorem smallB_out (a : Bool) (c : UInt8) : smallB (titleOut a c) = smallB c := by
  unfold titleOut
  split
  · rename_i h
    simp only [isLow, Bool.and_eq_true, decide_eq_true_eq] at h
    have e : (c - 32).toNat = c.toNat - 32 := by rw [UInt8.toNat_sub_of_le _ _ (by rw [UInt8.le_iff_toNat_le]; simp; omega)]; rfl
    unfold smallB
    rw [if_pos (by omega), if_neg (by omega), UInt8.sub_add_cancel]
  · rfl
theorem smallL_run (l : List UInt8) : ∀ a b, smallL (titleRun a b l) = smallL l := by
  induction l with
  | nil => intro a b; rfl
  | cons c r ih =>
    intro a b
    have h := ih (titleIn a b c) (isMid c)
    simp only [smallL] at h
    simp only [titleRun, smallL, List.map_cons, smallB_out, h]
theorem smallL_titleL (l : List UInt8) : smallL (titleL l) = smallL l := smallL_run l _ _
theorem smallK_nmK (kv : Kv) : smallK (nmK kv) = smallK kv := by
  simp only [smallK, nmK, nameS, titleS, smallL_titleL]
theorem good_lt {fs : List Kv} (h : KvGood fs) : ∀ (j i : Nat) (f g : Kv), i < j → fs[i]? = some f → fs[j]? = some g → ltK (smallK f).key (smallK g).key := by
  intro j
  induction j with
  | zero => intro i f g hi; omega
  | succ j ih =>
    intro i f g hi hf hg
    have hlt : j + 1 < fs.length := (List.getElem?_eq_some_iff.1 hg).1
    have hm : fs[j]? = some fs[j] := List.getElem?_eq_getElem (by omega)
    have h1 : ltK (smallK fs[j]).key (smallK g).key := (h.1.2 j _ g hlt hm hg).2
    by_cases e : i = j
    · subst e
      rw [hm] at hf
      cases hf
      exact h1
    · exact ltK_trans (ih i f _ (by omega) hf hm) h1
theorem good_rising {fs : List Kv} (h : KvGood fs) : (fs.map smallK).Pairwise fun f g => ltK f.key g.key := by
  rw [List.pairwise_map, List.pairwise_iff_getElem]
  intro i j hi hj hij
  exact good_lt h j i _ _ hij (List.getElem?_eq_getElem hi) (List.getElem?_eq_getElem hj)
theorem good_names {fs : List Kv} (h : KvGood fs) : fs.Pairwise fun a b => keyL (nmK a) ≠ keyL (nmK b) := by
  have h1 := good_rising h
  rw [List.pairwise_map] at h1
  refine h1.imp fun {a b} hlt e => ?_
  have e2 : (smallK a).key = (smallK b).key := by
    rw [← smallK_nmK a, ← smallK_nmK b]
    simp only [keyL] at e
    simp only [smallK, e]
  rw [e2] at hlt
  exact ltK_irrefl _ hlt
theorem good_ascii {fs : List Kv} (h : KvGood fs) : ∀ kv ∈ fs, kv.key.data.toList.all asciiB = true := by
  intro f hf
  obtain ⟨i, hi, e⟩ := List.mem_iff_getElem.1 hf
  have h1 := (h.1.1 i f hi (by rw [List.getElem?_eq_getElem hi, e])).1
  simp only [nameOk, Bool.and_eq_true] at h1
  rw [List.all_eq_true]
  intro c hc
  have h2 := (List.all_eq_true.1 h1.1.1) c hc
  simp only [nameByte, Bool.or_eq_true, decide_eq_true_eq, beq_iff_eq] at h2
  simp only [asciiB, decide_eq_true_eq]
  omega
/-- Sorted, the names' letters small: the same of both. -/
theorem sorted_back {fs zs ys : List Kv} (h : KvGood fs) (hz : zs.Perm (fs.map nmK)) (hy : ys.Perm (zs.map smallK)) (hs : SortedK ys) : ys = fs.map smallK := by
  refine sorted_unique _ _ (hy.trans ?_) (good_rising h) hs
  have := hz.map smallK
  rw [List.map_map] at this
  have e : smallK ∘ nmK = smallK := funext smallK_nmK
  rw [e] at this
  exact this
theorem sorted_fore {fs ys : List Kv} (h : KvGood fs) (hy : ys.Perm (fs.map smallK)) (hs : SortedK ys) : ys = fs.map smallK :=
  sorted_unique _ _ hy (good_rising h) hs
end Go.Proofs.YtkpcepdalegmmaaGreatDoor

/-! Properties: the usual names. -/
namespace Go.Proofs.YtkpcepdalegmmaaGreatDoor
open Go.RowKit

theorem titleS_id : titleS idS = idS := by decide +kernel
theorem titleS_st : titleS stS = stS := by decide +kernel
theorem lt_id_st : ltK idS stS := by unfold ltK; decide +kernel
theorem good_key {fs : List Kv} (h : KvGood fs) (i j : Nat) (f g : Kv) (hij : i < j) (hf : fs[i]? = some f) (hg : fs[j]? = some g) : f.key ≠ g.key := by
  intro e
  have := good_lt h j i f g hij hf hg
  simp only [smallK, e] at this
  exact ltK_irrefl _ this
theorem not_lt_st_id : ¬ ltK stS idS := by unfold ltK; decide +kernel
theorem usual_cases {fs : List Kv} (h : KvGood fs) (hu : ∀ f ∈ fs, usualK f) : fs = [] ∨ (∃ v, fs = [⟨idS, v⟩]) ∨ (∃ v, fs = [⟨stS, v⟩]) ∨ ∃ v u, fs = [⟨idS, v⟩, ⟨stS, u⟩] := by
  match fs, h, hu with
  | [], _, _ => exact .inl rfl
  | [⟨k, v⟩], _, hu =>
    rcases hu _ (List.mem_cons_self ..) with e | e
    · simp only at e; subst e; exact .inr (.inl ⟨v, rfl⟩)
    · simp only at e; subst e; exact .inr (.inr (.inl ⟨v, rfl⟩))
  | [⟨k, v⟩, ⟨k2, v2⟩], h, hu =>
    have h1 := h.1.2 0 ⟨k, v⟩ ⟨k2, v2⟩ (by simp) rfl rfl
    have hl : ltK k k2 := h1.1
    rcases hu ⟨k, v⟩ (by simp) with e | e <;> rcases hu ⟨k2, v2⟩ (by simp) with e2 | e2 <;> simp only at e e2 <;> subst e <;> subst e2
    · exact absurd hl (ltK_irrefl _)
    · exact .inr (.inr (.inr ⟨v, v2, rfl⟩))
    · exact absurd hl not_lt_st_id
    · exact absurd hl (ltK_irrefl _)
  | a :: b :: c :: r, h, hu =>
    exfalso
    have n1 := good_key h 0 1 a b (by omega) rfl rfl
    have n2 := good_key h 0 2 a c (by omega) rfl rfl
    have n3 := good_key h 1 2 b c (by omega) rfl rfl
    rcases hu a (by simp) with ea | ea <;> rcases hu b (by simp) with eb | eb <;> rcases hu c (by simp) with ec | ec <;> rw [ea] at n1 n2 <;> rw [eb] at n1 n3 <;> rw [ec] at n2 n3 <;> first | exact n1 rfl | exact n2 rfl | exact n3 rfl
end Go.Proofs.YtkpcepdalegmmaaGreatDoor

/-! Properties: a map that holds the properties as they stand; its names, collected and sorted; the usual names in small letters. -/
namespace Go.Proofs.YtkpcepdalegmmaaGreatDoor
open Go.RowKit
open Go.Maps (has IsMap)

def putX (D : DataW Unit) (kv : Kv) : DataW Unit := D.put (.string (keyL kv)) (.lit (.string kv.val.data.toList))
def mdX (kvs : List Kv) : DataW Unit := kvs.foldl putX (.map [])
theorem mdX_snoc (l : List Kv) (kv : Kv) : mdX (l ++ [kv]) = putX (mdX l) kv := by simp [mdX]
theorem foldx_has : ∀ (kvs : List Kv) (D : DataW Unit), IsMap D → IsMap (kvs.foldl putX D) ∧ ∀ k : List UInt8, has (kvs.foldl putX D) (.string k) = true ↔ (has D (.string k) = true ∨ ∃ kv ∈ kvs, keyL kv = k) := by
  intro kvs
  induction kvs with
  | nil => intro D hD; exact ⟨hD, fun k => by simp⟩
  | cons kv r ih =>
    intro D hD
    have h1 : IsMap (putX D kv) := hD.put _ _
    obtain ⟨h2, h3⟩ := ih (putX D kv) h1
    refine ⟨h2, fun k => ?_⟩
    rw [List.foldl_cons, h3 k]
    have h4 : has (putX D kv) (.string k) = true ↔ (has D (.string k) = true ∨ keyL kv = k) := by
      by_cases e : keyL kv = k
      · subst e
        have := Go.Maps.has_put_same (k := .string (keyL kv)) hD trivial (.lit (.string kv.val.data.toList))
        exact ⟨fun _ => .inr rfl, fun _ => this⟩
      · have := Go.Maps.has_put_other (D := D) (k := .string (keyL kv)) (k' := .string k) (fun h => e (by injection h with h; exact h.symm)) (.lit (.string kv.val.data.toList))
        unfold putX
        rw [this]
        exact ⟨.inl, fun h => h.resolve_right e⟩
    rw [h4]
    simp only [List.mem_cons, exists_eq_or_imp, or_assoc]
theorem foldx_at_other : ∀ (kvs : List Kv) (D : DataW Unit) (k : List UInt8) (z : DataW Unit), (∀ kv ∈ kvs, keyL kv ≠ k) → (kvs.foldl putX D).atKey (.string k) z = D.atKey (.string k) z := by
  intro kvs
  induction kvs with
  | nil => intro D k z _; rfl
  | cons kv r ih =>
    intro D k z h
    rw [List.foldl_cons, ih _ k z (fun x hx => h x (List.mem_cons_of_mem _ hx))]
    exact Go.Maps.atKey_put_other (fun e => h kv (List.mem_cons_self ..) (by injection e with e; exact e.symm)) _ _
theorem foldx_at : ∀ (kvs : List Kv) (D : DataW Unit), IsMap D → kvs.Pairwise (fun a b => keyL a ≠ keyL b) → ∀ kv ∈ kvs, ∀ z, (kvs.foldl putX D).atKey (.string (keyL kv)) z = .lit (.string kv.val.data.toList) := by
  intro kvs
  induction kvs with
  | nil => intro D _ _ kv h; cases h
  | cons kv0 r ih =>
    intro D hD hp kv hkv z
    rw [List.pairwise_cons] at hp
    rw [List.foldl_cons]
    rcases List.mem_cons.1 hkv with rfl | hkv
    · rw [foldx_at_other r _ _ z (fun x hx => (hp.1 x hx).symm)]
      exact Go.Maps.atKey_put_same (k := .string (keyL kv)) hD trivial _ _
    · exact ih _ (hD.put _ _) hp.2 kv hkv z
theorem mdX_has (kvs : List Kv) (k : List UInt8) : has (mdX kvs) (.string k) = true ↔ ∃ kv ∈ kvs, keyL kv = k := by
  have := (foldx_has kvs (.map []) ⟨[], rfl⟩).2 k
  rw [show has (.map [] : DataW Unit) (.string k) = false from rfl] at this
  unfold mdX
  simpa using this
/-- A name that has not come yet is not in the map. -/
theorem mdX_new {kvs : List Kv} {i : Nat} {kv : Kv} (hp : kvs.Pairwise (fun a b => keyL a ≠ keyL b)) (h : kvs[i]? = some kv) : has (mdX (kvs.take i)) (.string (keyL kv)) = false := by
  rw [Bool.eq_false_iff]
  intro hh
  obtain ⟨kv2, hm, e⟩ := (mdX_has _ _).1 hh
  obtain ⟨j, hj, rfl⟩ := List.mem_iff_getElem.1 hm
  rw [List.length_take] at hj
  rw [List.getElem_take] at e
  obtain ⟨hi, rfl⟩ := List.getElem?_eq_some_iff.1 h
  exact List.pairwise_iff_getElem.1 hp j i (by omega) hi (by omega) e
theorem mdX_at {kvs : List Kv} (hp : kvs.Pairwise (fun a b => keyL a ≠ keyL b)) {kv : Kv} (h : kv ∈ kvs) (z : DataW Unit) : (mdX kvs).atKey (.string (keyL kv)) z = .lit (.string kv.val.data.toList) :=
  foldx_at kvs (.map []) ⟨[], rfl⟩ hp kv h z
theorem keys_perm {kvs : List Kv} {ys : List (List UInt8)} {left : Lit → Bool} (hp : kvs.Pairwise (fun a b => keyL a ≠ keyL b)) (hC : Collected (mdX kvs) left ys) (hl : ∀ kl, left kl = false) : ys.Perm (kvs.map keyL) := by
  have nd : (kvs.map keyL).Nodup := by
    rw [List.nodup_iff_pairwise_ne, List.pairwise_map]
    exact hp
  refine (List.perm_ext_iff_of_nodup hC.1 nd).2 fun y => ?_
  rw [hC.2, mdX_has, List.mem_map]
  exact ⟨fun h => h.1, fun h => ⟨h, hl _⟩⟩
/-- Rising names, in whatever order they were collected, sort to themselves. -/
theorem keys_sorted {kvs : List Kv} {ys : List (List UInt8)} (h : ys.Perm (kvs.map keyL)) (hs : (kvs.map keyL).Pairwise (fun a b => a ≤ b)) : (ys.mergeSort fun x y => decide (x ≤ y)) = kvs.map keyL := by
  have e1 := mergeSort_of_perm h
  unfold leB at e1
  rw [e1]
  refine List.mergeSort_of_pairwise (hs.imp fun h => ?_)
  simpa using h
theorem le_id_st : idS.data.toList ≤ stS.data.toList := by decide +kernel
theorem usual_le {kvs : List Kv} (h : KvGood kvs) (hu : ∀ f ∈ kvs, usualK f) : (kvs.map keyL).Pairwise (fun a b => a ≤ b) := by
  rcases usual_cases h hu with rfl | ⟨v, rfl⟩ | ⟨v, rfl⟩ | ⟨v, u, rfl⟩
  · simp
  · simp
  · simp
  · simpa [keyL] using le_id_st
theorem good_apart {kvs : List Kv} (h : KvGood kvs) : kvs.Pairwise (fun a b => keyL a ≠ keyL b) := by
  rw [List.pairwise_iff_getElem]
  intro i j hi hj hij e
  exact good_key h i j _ _ hij (List.getElem?_eq_getElem hi) (List.getElem?_eq_getElem hj) (byteArray_eq e)
/-- A name in small letters. -/
def lowK (k : ByteArray) : List UInt8 := Go.Lib.toLowerA k.data.toList
theorem low_apart {a b : Kv} (ha : usualK a) (hb : usualK b) (h : a.key ≠ b.key) : lowK a.key ≠ lowK b.key := by
  have e1 : lowK idS ≠ lowK stS := by decide +kernel
  rcases ha with ea | ea <;> rcases hb with eb | eb <;> rw [ea, eb] at h ⊢
  · exact absurd rfl h
  · exact e1
  · exact e1.symm
  · exact absurd rfl h
/-- The names that have come, in small letters. -/
def lowD (ks : List Kv) : DataW Unit := Go.Maps.setOf (.agg []) (ks.map fun f => .string (lowK f.key))
theorem lowD_new {kvs : List Kv} {i : Nat} {kv : Kv} (hg : KvGood kvs) (hu : ∀ f ∈ kvs, usualK f) (h : kvs[i]? = some kv) : has (lowD (kvs.take i)) (.string (lowK kv.key)) = false := by
  unfold lowD
  rw [Go.Maps.has_setOf _ _ _ (by intro x hx; obtain ⟨f, _, rfl⟩ := List.mem_map.1 hx; trivial)]
  rw [Bool.eq_false_iff]
  intro hh
  rw [List.any_eq_true] at hh
  obtain ⟨x, hx, e⟩ := hh
  obtain ⟨f, hf, rfl⟩ := List.mem_map.1 hx
  obtain ⟨j, hj, rfl⟩ := List.mem_iff_getElem.1 hf
  rw [List.length_take] at hj
  rw [List.getElem_take] at e
  obtain ⟨hi, rfl⟩ := List.getElem?_eq_some_iff.1 h
  have h1 := good_key hg j i _ _ (by omega) (List.getElem?_eq_getElem (by omega)) (List.getElem?_eq_getElem hi)
  refine low_apart (hu _ (List.getElem_mem _)) (hu _ (List.getElem_mem _)) h1 ?_
  simpa [Lit.sameKey] using e
theorem lowD_snoc (l : List Kv) (kv : Kv) : lowD (l ++ [kv]) = (lowD l).put (.string (lowK kv.key)) (.agg []) := by
  unfold lowD
  rw [List.map_append]
  exact Go.Maps.setOf_snoc _ _ _
end Go.Proofs.YtkpcepdalegmmaaGreatDoor
