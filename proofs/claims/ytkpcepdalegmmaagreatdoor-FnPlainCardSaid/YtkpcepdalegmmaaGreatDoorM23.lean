/- Parts of a proof, laid behind one another: Properties: what a map holds once properties have been read into it. Properties: impl.ParseMetadata of whole properties: the closure. Properties: the order of names; sorted lists. slices.SortFunc at a short slice of properties: what lies there afterwards is a permutation. slices.SortFunc at a short slice of properties. Properties: impl.ParseMetadata of whole properties. spec.Name, spec.Mechanism: whether a text is the name of a command, of a mechanism. (printed by gen_name.py) -/
import Derived.Test.YtkpcepdalegmmaaGreatDoorM22
import Derived.Sort.KeysCollected
import Derived.Test.YtkpcepdalegmmaaGreatDoorM03
import Derived.Maps.RangeWalk
import Derived.Maps.StringElems
import Derived.Test.YtkpcepdalegmmaaGreatDoorM12
import Derived.Deep.QuietTactic
import Derived.BigQuiet
import Derived.Deep.RegionHeld3
import Derived.Deep.RegionLaw
import Derived.Test.YtkpcepdalegmmaaGreatDoorM02
/-! Properties: what a map holds once properties have been read into it. -/
namespace Go.Proofs.YtkpcepdalegmmaaGreatDoor
open Go.RowKit
open Go.Maps (has IsMap)

def nmK (kv : Kv) : Kv := ⟨nameS kv.key, kv.val⟩
def keyL (kv : Kv) : List UInt8 := kv.key.data.toList
theorem foldl_has : ∀ (kvs : List Kv) (D : DataW Unit), IsMap D → IsMap (kvs.foldl putKv D) ∧ ∀ k : List UInt8, has (kvs.foldl putKv D) (.string k) = true ↔ (has D (.string k) = true ∨ ∃ kv ∈ kvs, keyL (nmK kv) = k) := by
  intro kvs
  induction kvs with
  | nil => intro D hD; exact ⟨hD, fun k => by simp⟩
  | cons kv r ih =>
    intro D hD
    have h1 : IsMap (putKv D kv) := hD.put _ _
    obtain ⟨h2, h3⟩ := ih (putKv D kv) h1
    refine ⟨h2, fun k => ?_⟩
    rw [List.foldl_cons, h3 k]
    have h4 : has (putKv D kv) (.string k) = true ↔ (has D (.string k) = true ∨ keyL (nmK kv) = k) := by
      by_cases e : keyL (nmK kv) = k
      · subst e
        have := Go.Maps.has_put_same (k := .string (nameS kv.key).data.toList) hD trivial (.lit (.string kv.val.data.toList))
        exact ⟨fun _ => .inr rfl, fun _ => this⟩
      · have := Go.Maps.has_put_other (D := D) (k := .string (nameS kv.key).data.toList) (k' := .string k) (fun h => e (by injection h with h; exact h.symm)) (.lit (.string kv.val.data.toList))
        unfold putKv
        rw [this]
        exact ⟨.inl, fun h => h.resolve_right e⟩
    rw [h4]
    simp only [List.mem_cons, exists_eq_or_imp, or_assoc]
theorem foldl_at_other : ∀ (kvs : List Kv) (D : DataW Unit) (k : List UInt8) (z : DataW Unit), (∀ kv ∈ kvs, keyL (nmK kv) ≠ k) → (kvs.foldl putKv D).atKey (.string k) z = D.atKey (.string k) z := by
  intro kvs
  induction kvs with
  | nil => intro D k z _; rfl
  | cons kv r ih =>
    intro D k z h
    rw [List.foldl_cons, ih _ k z (fun x hx => h x (List.mem_cons_of_mem _ hx))]
    exact Go.Maps.atKey_put_other (fun e => h kv (List.mem_cons_self ..) (by injection e with e; exact e.symm)) _ _
theorem foldl_at : ∀ (kvs : List Kv) (D : DataW Unit), IsMap D → kvs.Pairwise (fun a b => keyL (nmK a) ≠ keyL (nmK b)) → ∀ kv ∈ kvs, ∀ z, (kvs.foldl putKv D).atKey (.string (keyL (nmK kv))) z = .lit (.string kv.val.data.toList) := by
  intro kvs
  induction kvs with
  | nil => intro D _ _ kv h; cases h
  | cons kv0 r ih =>
    intro D hD hp kv hkv z
    rw [List.pairwise_cons] at hp
    rw [List.foldl_cons]
    rcases List.mem_cons.1 hkv with rfl | hkv
    · rw [foldl_at_other r _ _ z (fun x hx => (hp.1 x hx).symm)]
      exact Go.Maps.atKey_put_same (k := .string (keyL (nmK kv))) hD trivial _ _
    · exact ih _ (hD.put _ _) hp.2 kv hkv z
theorem byteArray_eq {a b : ByteArray} (h : a.data.toList = b.data.toList) : a = b := Go.WideShapes.bytes_inj h
theorem kv_eq {a b : Kv} (h1 : keyL a = keyL b) (h2 : a.val.data.toList = b.val.data.toList) : a = b := by
  obtain ⟨k, v⟩ := a
  obtain ⟨k', v'⟩ := b
  have e1 : k = k' := byteArray_eq h1
  have e2 : v = v' := byteArray_eq h2
  rw [e1, e2]
/-- What has been collected in whatever order: a permutation. -/
theorem collected_perm {kvs ys : List Kv} {left : Lit → Bool} (hp : kvs.Pairwise (fun a b => keyL (nmK a) ≠ keyL (nmK b))) (hC : Collected (mdOf kvs) left (ys.map keyL)) (hat : ∀ y ∈ ys, ∀ z, (mdOf kvs).atKey (.string (keyL y)) z = .lit (.string y.val.data.toList))
    (hl : ∀ kl, left kl = false) : ys.Perm (kvs.map nmK) := by
  have hM : IsMap (.map [] : DataW Unit) := ⟨[], rfl⟩
  have hh : ∀ k : List UInt8, has (mdOf kvs) (.string k) = true ↔ ∃ kv ∈ kvs, keyL (nmK kv) = k := fun k => by
    have := (foldl_has kvs (.map []) hM).2 k
    rw [show has (.map [] : DataW Unit) (.string k) = false from rfl] at this
    unfold mdOf
    simpa using this
  have ha := foldl_at kvs (.map []) hM hp
  have nd1 : ys.Nodup := by
    have := hC.1
    rw [List.nodup_iff_pairwise_ne, List.pairwise_map] at this
    exact List.nodup_iff_pairwise_ne.2 (this.imp fun h e => h (by rw [e]))
  have nd2 : (kvs.map nmK).Nodup := by
    rw [List.nodup_iff_pairwise_ne, List.pairwise_map]
    exact hp.imp fun h e => h (by rw [e])
  refine (List.perm_ext_iff_of_nodup nd1 nd2).2 fun y => ?_
  constructor
  · intro hy
    have h1 : keyL y ∈ ys.map keyL := List.mem_map.2 ⟨y, hy, rfl⟩
    obtain ⟨h2, _⟩ := (hC.2 _).1 h1
    obtain ⟨kv, hkv, e⟩ := (hh _).1 h2
    have h3 := hat y hy (.map [])
    have h4 := ha kv hkv (.map [])
    rw [e] at h4
    have h5 := h3.symm.trans h4
    refine List.mem_map.2 ⟨kv, hkv, kv_eq e ?_⟩
    injection h5 with h5
    injection h5 with h5
    exact h5.symm
  · intro hy
    obtain ⟨kv, hkv, rfl⟩ := List.mem_map.1 hy
    have h1 := (hC.2 (keyL (nmK kv))).2 ⟨(hh _).2 ⟨kv, hkv, rfl⟩, hl _⟩
    obtain ⟨y, hy, e⟩ := List.mem_map.1 h1
    have h3 := hat y hy (.map [])
    have h4 := ha kv hkv (.map [])
    rw [e] at h3
    have h5 := h3.symm.trans h4
    have : y = nmK kv := kv_eq e (by
      injection h5 with h5
      injection h5 with h5)
    rw [← this]
    exact hy
end Go.Proofs.YtkpcepdalegmmaaGreatDoor

/-! Properties: impl.ParseMetadata of whole properties: the closure. -/
namespace Go.Proofs.YtkpcepdalegmmaaGreatDoor
open Go.RowKit

def RangesS (w : World) (B r n : Nat) (D : DataW Unit) (left : Lit → Bool) (cnt : Nat) : Prop := w.ranges Tryz.prog 9 (plainElem Tryz.prog 9) B r n D left cnt
section
variable {w w' : World} {B r n cnt : Nat} {D : DataW Unit} {left : Lit → Bool}
theorem RangesS.apart {ps : List Nat} (h : RangesS w B r n D left cnt) (ha : Apart ps w w') (h1 : B ∉ ps) (h2 : r ∉ ps) : RangesS w' B r n D left cnt := by
  have k1 := World.ownsMap.lt (World.ranges.owns h)
  have k2 := World.ranges.lt h
  obtain ⟨es, clock, since, seen, c0, hb, F, hs, hD, hr, rest⟩ := h
  exact ⟨es, clock, since, seen, c0, (ha.block B k1 h1).trans hb, F, hs, hD, (ha.block r k2 h2).trans hr, rest⟩
theorem RangesS.ne_cells (h : RangesS w B r n D left cnt) {g : Nat} {cs : Array Value} {t : TypeId} {fz : Nat × Nat} (hg : w.heap[g]? = some (.cells cs t fz)) : g ≠ B ∧ g ≠ r := by
  obtain ⟨es, clock, since, seen, c0, hb, F, hs, hD, hr, rest⟩ := h
  refine ⟨fun e => ?_, fun e => ?_⟩
  · subst e
    rw [hg] at hb
    cases hb
  · subst e
    rw [hg] at hr
    cases hr
theorem RangesS.ne_own (h : RangesS w B r n D left cnt) {base size k c : Nat} {e : TypeId} {A : Option Addr} {xs : List Value} (ho : w.ownsRow base e size (.slice A k c) k xs) : some B ≠ A.map (·.block) ∧ some r ≠ A.map (·.block) := by
  rcases ho.2 with ⟨hv, _⟩ | ⟨g, cap, cur, hv, _, hh, _⟩
  · injection hv with hA
    subst hA
    exact ⟨by simp, by simp⟩
  · injection hv with hA
    subst hA
    obtain ⟨h1, h2⟩ := h.ne_cells hh
    exact ⟨by simpa using h1.symm, by simpa using h2.symm⟩
theorem MapIs.size_le (h : MapIs w B n D) : Go.Maps.size D ≤ n := by
  obtain ⟨es, clock, hb, F, hs, rfl⟩ := h
  show List.length _ ≤ n
  rw [length_sorted, List.length_map]
  simpa using hs
end
end Go.Proofs.YtkpcepdalegmmaaGreatDoor

/-! Properties: the order of names; sorted lists. -/
namespace Go.Proofs.YtkpcepdalegmmaaGreatDoor
open Go.RowKit

theorem less_irrefl : ∀ a : List UInt8, Op.bytesLess a a = false := by
  intro a
  induction a with
  | nil => rfl
  | cons x r ih => simp [Op.bytesLess, ih]
theorem less_cons (x y : UInt8) (a b : List UInt8) : Op.bytesLess (x :: a) (y :: b) = true ↔ x.toNat < y.toNat ∨ (x = y ∧ Op.bytesLess a b = true) := by
  simp [Op.bytesLess, UInt8.lt_iff_toNat_lt]
theorem less_trans : ∀ a b c : List UInt8, Op.bytesLess a b = true → Op.bytesLess b c = true → Op.bytesLess a c = true := by
  intro a
  induction a with
  | nil =>
    intro b c h1 h2
    cases c with
    | nil => cases b <;> simp [Op.bytesLess] at h2
    | cons z c => rfl
  | cons x a ih =>
    intro b c h1 h2
    cases b with
    | nil => simp [Op.bytesLess] at h1
    | cons y b =>
      cases c with
      | nil => simp [Op.bytesLess] at h2
      | cons z c =>
        rw [less_cons] at h1 h2 ⊢
        rcases h1 with h1 | ⟨rfl, h1⟩ <;> rcases h2 with h2 | ⟨rfl, h2⟩
        · exact .inl (by omega)
        · exact .inl h1
        · exact .inl h2
        · exact .inr ⟨rfl, ih _ _ h1 h2⟩
theorem less_total : ∀ a b : List UInt8, a ≠ b → Op.bytesLess a b = true ∨ Op.bytesLess b a = true := by
  intro a
  induction a with
  | nil =>
    intro b h
    cases b with
    | nil => exact absurd rfl h
    | cons y b => exact .inl rfl
  | cons x a ih =>
    intro b h
    cases b with
    | nil => exact .inr rfl
    | cons y b =>
      rw [less_cons, less_cons]
      by_cases hxy : x = y
      · subst hxy
        rcases ih b (fun e => h (by rw [e])) with h1 | h1
        · exact .inl (.inr ⟨rfl, h1⟩)
        · exact .inr (.inr ⟨rfl, h1⟩)
      · have : x.toNat ≠ y.toNat := fun e => hxy (UInt8.toNat_inj.1 e)
        rcases Nat.lt_or_gt_of_ne this with h1 | h1
        · exact .inl (.inl h1)
        · exact .inr (.inl h1)

/-- 'a > b' of two names. -/
def gtK (a b : ByteArray) : Bool := !(Op.bytesLess a.toList b.toList || a.toList == b.toList)
def ltK (a b : ByteArray) : Prop := Op.bytesLess a.toList b.toList = true
theorem gtK_iff (a b : ByteArray) : gtK a b = true ↔ ltK b a := by
  unfold gtK ltK
  simp only [Bool.not_eq_true', Bool.or_eq_false_iff, beq_eq_false_iff_ne]
  constructor
  · rintro ⟨h1, h2⟩
    rcases less_total _ _ h2 with h | h
    · rw [h1] at h; cases h
    · exact h
  · intro h
    refine ⟨?_, fun e => ?_⟩
    · cases h2 : Op.bytesLess a.toList b.toList
      · rfl
      · have := less_trans _ _ _ h2 h
        rw [less_irrefl] at this
        cases this
    · rw [e, less_irrefl] at h
      cases h
theorem ltK_trans {a b c : ByteArray} (h1 : ltK a b) (h2 : ltK b c) : ltK a c := less_trans _ _ _ h1 h2
theorem ltK_irrefl (a : ByteArray) : ¬ ltK a a := fun h => by unfold ltK at h; rw [less_irrefl] at h; cases h
/-- 'not greater' is handed on. -/
theorem notGt_trans {a b c : ByteArray} (h1 : gtK a b = false) (h2 : gtK b c = false) : gtK a c = false := by
  cases h : gtK a c
  · rfl
  · rw [gtK_iff] at h
    have n1 : ¬ ltK b a := fun e => by rw [(gtK_iff a b).2 e] at h1; cases h1
    have n2 : ¬ ltK c b := fun e => by rw [(gtK_iff b c).2 e] at h2; cases h2
    by_cases hab : a.toList = b.toList
    · exact absurd (by unfold ltK at h ⊢; rw [← hab]; exact h) n2
    · rcases less_total _ _ hab with e | e
      · exact absurd (ltK_trans h e) n2
      · exact absurd e n1

def SortedK (ys : List Kv) : Prop := ys.Pairwise fun f g => gtK f.key g.key = false
theorem ins_perm (ys : List Kv) (p : Kv) (a : Nat) : (ys.take a ++ (p :: ys.drop a)).Perm (ys ++ [p]) := by
  refine List.perm_middle.trans ?_
  rw [List.take_append_drop]
  exact (List.perm_append_singleton p ys).symm
theorem ins_sorted {ys : List Kv} {p : Kv} {a : Nat} (hs : SortedK ys) (hlo : ∀ f, 0 < a → ys[a - 1]? = some f → gtK f.key p.key = false) (hhi : ∀ j f, a ≤ j → ys[j]? = some f → gtK f.key p.key = true) (ha : a ≤ ys.length) :
    SortedK (ys.take a ++ (p :: ys.drop a)) := by
  have hs' : SortedK (ys.take a ++ ys.drop a) := by rw [List.take_append_drop]; exact hs
  unfold SortedK at hs' ⊢
  rw [List.pairwise_append] at hs' ⊢
  obtain ⟨h1, h2, h3⟩ := hs'
  refine ⟨h1, List.pairwise_cons.2 ⟨fun g hg => ?_, h2⟩, fun f hf g hg => ?_⟩
  · obtain ⟨j, hj, e⟩ := List.mem_iff_getElem.1 hg
    rw [List.getElem_drop] at e
    rw [List.length_drop] at hj
    have := hhi (a + j) g (by omega) (by rw [List.getElem?_eq_getElem (by omega), e])
    rw [gtK_iff] at this
    cases h : gtK p.key g.key
    · rfl
    · rw [gtK_iff] at h
      exact absurd (ltK_trans this h) (ltK_irrefl _)
  · rcases List.mem_cons.1 hg with rfl | hg
    · obtain ⟨j, hj, e⟩ := List.mem_iff_getElem.1 hf
      rw [List.getElem_take] at e
      rw [List.length_take] at hj
      have ha0 : 0 < a := by omega
      have hlast := hlo (ys[a - 1]'(by omega)) ha0 (List.getElem?_eq_getElem (by omega))
      by_cases hja : j = a - 1
      · subst hja
        rw [← e]
        exact hlast
      · have hp := List.pairwise_iff_getElem.1 hs j (a - 1) (by omega) (by omega) (by omega)
        rw [← e]
        exact notGt_trans hp hlast
    · exact h3 f hf g hg
/-- There is one sorted order of names that differ. -/
theorem sorted_unique : ∀ (l2 l1 : List Kv), l1.Perm l2 → l2.Pairwise (fun f g => ltK f.key g.key) → SortedK l1 → l1 = l2 := by
  intro l2
  induction l2 with
  | nil => intro l1 h _ _; exact h.eq_nil
  | cons y r2 ih =>
    intro l1 h hp hs
    cases l1 with
    | nil => exact absurd h.length_eq (by simp)
    | cons x r1 =>
      have hxy : x = y := by
        have hx : x ∈ y :: r2 := h.subset (List.mem_cons_self ..)
        have hy : y ∈ x :: r1 := h.symm.subset (List.mem_cons_self ..)
        rcases List.mem_cons.1 hx with e | hx
        · exact e
        · rcases List.mem_cons.1 hy with e | hy
          · exact e.symm
          · have l := (List.pairwise_cons.1 hp).1 x hx
            have g := (List.pairwise_cons.1 hs).1 y hy
            rw [(gtK_iff x.key y.key).2 l] at g
            cases g
      subst hxy
      rw [ih r1 (List.Perm.cons_inv h) (List.pairwise_cons.1 hp).2 (List.pairwise_cons.1 hs).2]
end Go.Proofs.YtkpcepdalegmmaaGreatDoor

/-! slices.SortFunc at a short slice of properties: what lies there afterwards is a permutation. -/
namespace Go.Proofs.YtkpcepdalegmmaaGreatDoor
open Go.RowKit

/-- Block g begins with the properties ys, none of their cells frozen. -/
def ArrK (w : World) (g n : Nat) (ys : List Kv) : Prop := ys.length = n ∧ g < w.heap.size ∧ ∀ j f, ys[j]? = some f → (w.cell? ⟨g, j * 2, none⟩ = some (.string f.key) ∧ w.cell? ⟨g, j * 2 + 1, none⟩ = some (.string f.val)) ∧ w.frozen? ⟨g, j * 2, none⟩ = false ∧ w.frozen? ⟨g, j * 2 + 1, none⟩ = false
section
variable {w w' : World} {g n : Nat} {ys : List Kv}
theorem ArrK.kvs (h : ArrK w g n ys) : KvS w w.heap.size (some ⟨g, 0, none⟩) n ys := by
  refine ⟨by rw [kvCells_length, h.1], fun h0 => ⟨_, rfl, h.2.1, fun j u hu => ?_⟩⟩
  have hj : j < ys.length * 2 := by
    have := (List.getElem?_eq_some_iff.1 hu).1
    rw [kvCells_length] at this
    exact this
  obtain ⟨i, r, hr, rfl⟩ : ∃ i r, r < 2 ∧ j = i * 2 + r := ⟨j / 2, j % 2, by omega, by omega⟩
  have hi : i < ys.length := by omega
  have hf : ys[i]? = some ys[i] := List.getElem?_eq_getElem hi
  obtain ⟨c0, c1⟩ := kvCells_at _ _ _ hf
  obtain ⟨⟨k0, k1⟩, _⟩ := h.2.2 i _ hf
  rw [Addr.add_lit, Nat.zero_add]
  rcases (show r = 0 ∨ r = 1 by omega) with rfl | rfl
  · exact k0.trans (c0.symm.trans hu)
  · exact k1.trans (c1.symm.trans hu)
theorem ArrK.of_own {base c : Nat} {t : TypeId} (h : w.ownsRow base t 2 (.slice (some ⟨g, 0, none⟩) n c) n (kvCells ys)) (hn : 0 < n) : ArrK w g n ys := by
  have hl : ys.length = n := by have := h.1; rw [kvCells_length] at this; omega
  rcases h.2 with ⟨hv, h0⟩ | ⟨g', cap, cur, hv, hb, hh, h1, h2, h3, h4⟩
  · omega
  · injection hv with hA _ _
    injection hA with hA
    injection hA with hA
    subst hA
    refine ⟨hl, (Array.getElem?_eq_some_iff.1 hh).1, fun j f hf => ?_⟩
    obtain ⟨c0, c1⟩ := kvCells_at ys j f hf
    have hfz : ∀ i, w.frozen? ⟨g, i, none⟩ = false := fun i => by simp [World.frozen?, hh]
    have hcell : ∀ i u, (kvCells ys)[i]? = some u → w.cell? ⟨g, i, none⟩ = some u := fun i u hu => by
      rw [cell_of_row w g i cur t (0, 0) hh]
      rw [← h4, List.getElem?_take] at hu
      split at hu
      · simpa using hu
      · cases hu
    exact ⟨⟨hcell _ _ c0, hcell _ _ c1⟩, hfz _, hfz _⟩
theorem ArrK.apart {ps : List Nat} (h : ArrK w g n ys) (ha : Apart ps w w') (hg : g ∉ ps) : ArrK w' g n ys :=
  ⟨h.1, Nat.lt_of_lt_of_le h.2.1 ha.size, fun j f hf => by
    obtain ⟨⟨a, b⟩, c, d⟩ := h.2.2 j f hf
    exact ⟨⟨(ha.cell (p := ⟨g, _, none⟩) h.2.1 hg).trans a, (ha.cell (p := ⟨g, _, none⟩) h.2.1 hg).trans b⟩, (ha.frozen (p := ⟨g, _, none⟩) h.2.1 hg).trans c, (ha.frozen (p := ⟨g, _, none⟩) h.2.1 hg).trans d⟩⟩
/-- Property i written. -/
theorem ArrK.put (h : ArrK w g n ys) (i : Nat) (p : Kv) : ArrK ((w.setCell ⟨g, i * 2, none⟩ (.string p.key)).setCell ⟨g, i * 2 + 1, none⟩ (.string p.val)) g n (ys.set i p) := by
  refine ⟨by rw [List.length_set]; exact h.1, by simp only [World.size_setCell]; exact h.2.1, fun j f hf => ?_⟩
  have hl := h.1
  have hjl : j < ys.length := by
    have := (List.getElem?_eq_some_iff.1 hf).1
    rw [List.length_set] at this
    exact this
  have hyj : ys[j]? = some ys[j] := List.getElem?_eq_getElem hjl
  obtain ⟨⟨a, b⟩, c, d⟩ := h.2.2 j _ hyj
  simp only [World.frozen?_setCell]
  refine ⟨?_, c, d⟩
  by_cases hij : i = j
  · subst hij
    have hp : f = p := by
      rw [List.getElem?_set_self (by omega)] at hf
      exact (Option.some.inj hf).symm
    subst hp
    have n1 : (⟨g, i * 2, none⟩ : Addr) ≠ ⟨g, i * 2 + 1, none⟩ := fun e => by injection e with _ e; omega
    refine ⟨?_, ?_⟩
    · rw [World.cell?_setCell_other _ _ _ _ (fun e => n1 e.symm)]
      exact World.cell?_setCell_same w _ _ a
    · exact World.cell?_setCell_same _ _ _ ((World.cell?_setCell_other _ _ _ _ n1).trans b)
  · have hf2 : f = ys[j] := by
      rw [List.getElem?_set_ne hij, hyj] at hf
      exact (Option.some.inj hf).symm
    subst hf2
    have f00 : (⟨g, i * 2, none⟩ : Addr) ≠ ⟨g, j * 2, none⟩ := fun e => by injection e with _ e; omega
    have f01 : (⟨g, i * 2, none⟩ : Addr) ≠ ⟨g, j * 2 + 1, none⟩ := fun e => by injection e with _ e; omega
    have f10 : (⟨g, i * 2 + 1, none⟩ : Addr) ≠ ⟨g, j * 2, none⟩ := fun e => by injection e with _ e; omega
    have f11 : (⟨g, i * 2 + 1, none⟩ : Addr) ≠ ⟨g, j * 2 + 1, none⟩ := fun e => by injection e with _ e; omega
    refine ⟨?_, ?_⟩
    · rw [World.cell?_setCell_other _ _ _ _ f10, World.cell?_setCell_other _ _ _ _ f00]
      exact a
    · rw [World.cell?_setCell_other _ _ _ _ f11, World.cell?_setCell_other _ _ _ _ f01]
      exact b
theorem swap_perm {l : List Kv} {i j : Nat} {a b : Kv} (ha : l[i]? = some a) (hb : l[j]? = some b) : ((l.set i b).set j a).Perm l := by
  obtain ⟨h1, rfl⟩ := List.getElem?_eq_some_iff.1 ha
  obtain ⟨h2, rfl⟩ := List.getElem?_eq_some_iff.1 hb
  exact List.set_set_perm h1 h2
end

end Go.Proofs.YtkpcepdalegmmaaGreatDoor

/-! slices.SortFunc at a short slice of properties. -/
namespace Go.Proofs.YtkpcepdalegmmaaGreatDoor
open Go.RowKit

set_option maxRecDepth 100000 in
set_option maxHeartbeats 4000000 in
theorem Len64_any (k : Nat) (hk : k ≤ 10) (w : World) : Calls Tryz.prog 91 #[.int .u64 (k : Int)] w fun e w' => (∃ v : Int, e = .returned (.int .i64 v)) ∧ w' = w := by
  have h : k = 0 ∨ k = 1 ∨ k = 2 ∨ k = 3 ∨ k = 4 ∨ k = 5 ∨ k = 6 ∨ k = 7 ∨ k = 8 ∨ k = 9 ∨ k = 10 := by omega
  rcases h with rfl | rfl | rfl | rfl | rfl | rfl | rfl | rfl | rfl | rfl | rfl <;>
  · go_enter Tryz.func91, Tryz.ntmps91
    go_wp2_with fail
    go_ret
    exact ⟨⟨_, rfl⟩, rfl⟩
theorem Len_any (k : Nat) (hk : k ≤ 10) (w : World) : Calls Tryz.prog 65 #[.int .u64 (k : Int)] w fun e w' => (∃ v : Int, e = .returned (.int .i64 v)) ∧ w' = w := by
  go_enter Tryz.func65, Tryz.ntmps65
  go_wp2_with fail
  refine (Len64_any k hk _).mono ?_
  rintro e w' ⟨⟨v, rfl⟩, rfl⟩
  go_wp2_with fail
  go_ret
  exact ⟨⟨v, rfl⟩, rfl⟩

end Go.Proofs.YtkpcepdalegmmaaGreatDoor

/-! Properties: impl.ParseMetadata of whole properties. -/
namespace Go.Proofs.YtkpcepdalegmmaaGreatDoor
open Go.RowKit

end Go.Proofs.YtkpcepdalegmmaaGreatDoor

/-! spec.Name, spec.Mechanism: whether a text is the name of a command, of a mechanism. (printed by gen_name.py) -/
namespace Go.Proofs.YtkpcepdalegmmaaGreatDoor
open Go.RowKit

theorem take_snoc (s : ByteArray) (k : Nat) (h : k < s.size) : s.data.toList.take (k + 1) = s.data.toList.take k ++ [s[k]] := by
  rw [List.take_succ_eq_append_getElem (by simpa using h)]; rfl
theorem ret_bool {a b : Bool} (h : a = b) : Ending.returned (.bool a) = .returned (.bool b) := by rw [h]
theorem ne_lit {c : Nat} {x : Int} (h : (c : Int) < x ∨ x < (c : Int)) : ((c : Int) != x) = true := by rw [bne_iff_ne]; omega
theorem eq_lit {c : Nat} {x : Int} (h : x ≤ (c : Int) ∧ (c : Int) ≤ x) : ((c : Int) != x) = false := by rw [bne_eq_false_iff_eq]; omega
theorem all_snoc {p : UInt8 → Bool} {s : ByteArray} {k : Nat} (h : k < s.size) (ha : (s.data.toList.take k).all p = true) (hb : p s[k] = true) : (s.data.toList.take (k + 1)).all p = true := by
  rw [take_snoc s k h, List.all_append, ha, List.all_cons, hb]; rfl
theorem not_all {p : UInt8 → Bool} {s : ByteArray} {k : Nat} (h : k < s.size) (hb : p s[k] = false) : s.data.toList.all p = false := by
  refine List.all_eq_false.2 ⟨s[k], ?_, by simp [hb]⟩
  exact Array.getElem_mem_toList h
theorem take_all {p : UInt8 → Bool} {s : ByteArray} {k : Nat} (h : s.size ≤ k) (ha : (s.data.toList.take k).all p = true) : s.data.toList.all p = true := by
  rwa [List.take_of_length_le (by simpa using h)] at ha

def nameByte (c : UInt8) : Bool := decide (65 ≤ c.toNat ∧ c.toNat ≤ 90) || decide (97 ≤ c.toNat ∧ c.toNat ≤ 122) || decide (48 ≤ c.toNat ∧ c.toNat ≤ 57) || c.toNat == 45 || c.toNat == 95 || c.toNat == 46 || c.toNat == 43
def nameOk (s : ByteArray) : Bool := s.data.toList.all nameByte && decide (1 ≤ s.size) && decide (s.size ≤ 255)
theorem nameOk_no {s : ByteArray} {k : Nat} (h : k < s.size) (hb : nameByte s[k] = false) : nameOk s = false := by
  unfold nameOk; rw [not_all h hb]; rfl
theorem nameOk_end {s : ByteArray} (ha : s.data.toList.all nameByte = true) (h : 1 ≤ s.size) : nameOk s = decide ((s.size : Int) ≤ 255) := by
  unfold nameOk; rw [ha]; simp only [h, decide_true, Bool.true_and]; exact decide_eq_decide.2 (by omega)
theorem nameOk_few {s : ByteArray} (h : ¬ 1 ≤ s.size) : nameOk s = false := by unfold nameOk; simp [h]

end Go.Proofs.YtkpcepdalegmmaaGreatDoor
