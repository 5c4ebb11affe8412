/- laws.FnMetadata: the walk. -/
import Derived.Test.YtkpcepdalegmmaaDoorPma
import Derived.Test.YtkpcepdalegmmaaDoorFmd
import Derived.Test.YtkpcepdalegmmaaDoorSrt
import Derived.Test.YtkpcepdalegmmaaDoorCmd4
import Derived.Deep.RegionHeld3
namespace Go.Proofs.YtkpcepdalegmmaaDoor
open Go.RowKit

theorem small_fit {fs ys : List Kv} (h : ∀ f ∈ fs, kvFit f) (hy : ys = fs.map smallK) : ∀ f ∈ ys, f.key.size ≤ 100 ∧ f.val.size ≤ 300 := by
  subst hy
  intro f hf
  obtain ⟨g, hg, rfl⟩ := List.mem_map.1 hf
  have h1 := h g hg
  refine ⟨?_, h1.2.2⟩
  have e : (smallK g).key.size = g.key.size := by
    show (smallL g.key.data.toList).toArray.size = g.key.data.size
    simp [smallL]
  rw [e]
  exact h1.2.1
theorem perm_fit {fs zs : List Kv} (h : ∀ f ∈ fs, kvFit f) (hz : zs.Perm (fs.map nmK)) : ∀ f ∈ zs, f.key.size ≤ 2147483647 := by
  intro f hf
  obtain ⟨g, hg, rfl⟩ := List.mem_map.1 (hz.mem_iff.1 hf)
  have h1 := h g hg
  have e : (nmK g).key.size = g.key.size := nameS_size _
  rw [e]
  have := h1.2.1
  omega
theorem same_str {a b : ByteArray} (h : a = b) : (a.data.toList == b.data.toList) = true := by rw [h]; simp

section
variable (A : Option Addr) (n c : Nat) (fs : List Kv) (w : World)
theorem md_small (hr : KvS w w.heap.size A n fs) (hn : n ≤ maxLen) (hb : ∀ f ∈ fs, f.key.size ≤ maxLen ∧ f.val.size ≤ maxLen) (h : (decide (n ≤ 2147483647) && fs.all kvSmall) = false) :
    Calls Tryd.prog 3 #[.slice A n c] w fun e w' => e = .returned (.bool true) ∧ Below w.heap.size w w' := by
  have h1 := Lib.hid h
  clear h
  go_enter Tryd.func3, Tryd.ntmps3
  go_wp2_with fail
  refine (zzFits3 A n c fs w hr hn hb).mono ?_
  rintro e w' ⟨rfl, hb1⟩
  rw [h1.out]
  go_wp2_with fail
  go_ret
  exact ⟨rfl, hb1⟩

set_option maxRecDepth 100000 in
theorem md_main (hr : KvS w w.heap.size A n fs) (hn : n ≤ 2147483647) (hb : ∀ f ∈ fs, f.key.size ≤ 2147483647 ∧ f.val.size ≤ 2147483647) (h : (decide (n ≤ 2147483647) && fs.all kvSmall) = true) :
    Calls Tryd.prog 3 #[.slice A n c] w fun e w' => e = .returned (.bool true) ∧ Below w.heap.size w w' := by
  have h1 := Lib.hid h
  clear h
  have hl := Lib.hid hr.len
  go_enter Tryd.func3, Tryd.ntmps3
  go_wp2_with fail
  refine (zzFits3 A n c fs w hr (by unfold maxLen; omega) (fun f hf => by unfold maxLen; have := hb f hf; omega)).mono ?_
  rintro e w1 ⟨rfl, hb1⟩
  rw [h1.out]
  go_wp2_with fail
  refine (pairs A n c fs w1 (hr.after hb1) hn).mono ?_
  rintro e w2 ⟨A1, c1, rfl, ho, hb2⟩
  have hb12 := below_seq hb1 hb2 hb1.size
  obtain ⟨hr2, hc1⟩ := KvS.of_own ho
  clear ho hb1 hb2
  go_wp2_with fail
  refine (spec_Properties A1 n c1 fs w2 hr2 hn hb).mono ?_
  rintro e w3 ⟨b, rfl, hgood, hb3⟩
  have hb13 := below_seq hb12 hb3 hb12.size
  have hr3 := hr2.after hb3
  cases b
  · clear hr hr2 hr3 hb hgood
    go_wp2_with fail
    refine (works_any _).mono ?_
    rintro e w' ⟨rfl, hb⟩
    go_wp2_with fail
    go_ret
    exact ⟨rfl, below_seq hb13 hb hb13.size⟩
  have HG := Lib.hid (hgood rfl)
  obtain ⟨hfit, h10⟩ := good_parts HG.out
  have HF := Lib.hid hfit
  have hn10 : n ≤ 10 := by rw [← hl.out]; exact h10
  have HR := Lib.hid (⟨hr, hr3, hb, hb13⟩ : _ ∧ _ ∧ _ ∧ _)
  clear hr2 hr3 hb hfit h10 hgood hb3 hb12 hb13 hr
  go_wp2_with fail
  refine (spec_Metadata A1 n c1 fs w3 HR.out.2.1 hn10 (fun f hf => (HF.out f hf).2)).mono ?_
  rintro e w4 ⟨A4, n4, c4, rfl, ho4, hb4⟩
  have H4 := Lib.hid (⟨ho4, HR.out.2.1.after hb4, below_seq HR.out.2.2.2 hb4 HR.out.2.2.2.size⟩ : _ ∧ _ ∧ _)
  have hl4 : n4 ≤ 4050 := by
    have h1 := encKVs_le HF.out
    have h2 := ho4.len
    have h3 := hl.out
    omega
  clear ho4 hb4
  go_wp2_with fail
  refine (ParseMetadata_ok A4 n4 c4 _ fs w4 H4.out.1.rb (by omega) H4.out.1.cap.1 rfl HF.out (by have := hl.out; omega) (good_names HG.out) (good_ascii HG.out)).mono ?_
  rintro e w5 ⟨A5, m5, c5, zs, rfl, hz5, hp5, hb5⟩
  have H5 := Lib.hid (⟨hz5, hp5, H4.out.2.1.after hb5, below_seq H4.out.2.2 hb5 H4.out.2.2.size⟩ : _ ∧ _ ∧ _ ∧ _)
  have hm5 : m5 = n := by rw [← hz5.len, hp5.length_eq, List.length_map]; exact hl.out
  subst hm5
  clear hz5 hp5 hb5
  go_wp2_with fail
  refine (spec_Lowered A1 m5 c1 fs w5 H5.out.2.2.1 hn (fun f hf => by have := (HF.out f hf).2.1; omega)).mono ?_
  rintro e w6 ⟨A6, c6, rfl, ho6, hb6⟩
  have H6 := Lib.hid (⟨(KvS.of_own ho6).1, H5.out.1.after hb6, H5.out.2.2.1.after hb6, below_seq H5.out.2.2.2 hb6 H5.out.2.2.2.size⟩ : _ ∧ _ ∧ _ ∧ _)
  clear ho6 hb6
  go_wp2_with fail
  refine (spec_Sorted A6 m5 c6 _ w6 H6.out.1 hn10).mono ?_
  rintro e w7 ⟨A7, c7, ys, rfl, ho7, hp7, hs7, hb7⟩
  obtain rfl := sorted_fore HG.out hp7 hs7
  have H7 := Lib.hid (⟨(KvS.of_own ho7).1, H6.out.2.1.after hb7, H6.out.2.2.1.after hb7, below_seq H6.out.2.2.2 hb7 H6.out.2.2.2.size⟩ : _ ∧ _ ∧ _ ∧ _)
  clear ho7 hp7 hs7 hb7
  go_wp2_with fail
  refine (spec_Metadata A7 m5 c7 _ w7 H7.out.1 hn10 (small_fit HF.out rfl)).mono ?_
  rintro e w8 ⟨A8, n8, c8, rfl, ho8, hb8⟩
  have s8 := run_strB (c := c8) ho8.rb
  have H8 := Lib.hid (⟨H7.out.2.1.after hb8, H7.out.2.2.1.after hb8, below_seq H7.out.2.2.2 hb8 H7.out.2.2.2.size⟩ : _ ∧ _ ∧ _)
  clear ho8 hb8
  go_wp2_with fail
  refine (pairs A5 m5 c5 zs w8 H8.out.1 hn).mono ?_
  rintro e w9 ⟨A9, c9, rfl, ho9, hb9⟩
  have H9 := Lib.hid (⟨(KvS.of_own ho9).1, H8.out.2.1.after hb9, below_seq H8.out.2.2 hb9 H8.out.2.2.size⟩ : _ ∧ _ ∧ _)
  clear ho9 hb9 s8
  go_wp2_with fail
  refine (spec_Lowered A9 m5 c9 zs w9 H9.out.1 hn (perm_fit HF.out H5.out.2.1)).mono ?_
  rintro e w10 ⟨A10, c10, rfl, ho10, hb10⟩
  have H10 := Lib.hid (⟨(KvS.of_own ho10).1, H9.out.2.1.after hb10, below_seq H9.out.2.2 hb10 H9.out.2.2.size⟩ : _ ∧ _ ∧ _)
  clear ho10 hb10
  go_wp2_with fail
  refine (spec_Sorted A10 m5 c10 _ w10 H10.out.1 hn10).mono ?_
  rintro e w11 ⟨A11, c11, ys, rfl, ho11, hp11, hs11, hb11⟩
  obtain rfl := sorted_back HG.out H5.out.2.1 hp11 hs11
  have H11 := Lib.hid (⟨(KvS.of_own ho11).1, H10.out.2.1.after hb11, below_seq H10.out.2.2 hb11 H10.out.2.2.size⟩ : _ ∧ _ ∧ _)
  clear ho11 hp11 hs11 hb11
  go_wp2_with fail
  refine (spec_Metadata A11 m5 c11 _ w11 H11.out.1 hn10 (small_fit HF.out rfl)).mono ?_
  rintro e w12 ⟨A12, n12, c12, rfl, ho12, hb12⟩
  have s12 := run_strB (c := c12) ho12.rb
  have H12 := Lib.hid (⟨H11.out.2.1.after hb12, below_seq H11.out.2.2 hb12 H11.out.2.2.size⟩ : _ ∧ _)
  have e12 : ((encKVs (fs.map smallK)) == (encKVs (fs.map smallK))) = true := by simp
  clear ho12 hb12
  generalize encKVs (fs.map smallK) = L at *
  go_wp2_with fail
  refine (spec_Usual A1 m5 c1 fs w12 H12.out.1 hn).mono ?_
  rintro e w13 ⟨b, rfl, hus, hb13⟩
  have H13 := Lib.hid (⟨H12.out.1.after hb13, below_seq H12.out.2 hb13 H12.out.2.size⟩ : _ ∧ _)
  clear s12 e12 hb13
  cases b
  · clear hus
    go_wp2_with fail
    refine (works_any _).mono ?_
    rintro e w' ⟨rfl, hb⟩
    go_wp2_with fail
    go_ret
    exact ⟨rfl, below_seq H13.out.2 hb H13.out.2.size⟩
  have HU := Lib.hid (hus rfl)
  clear hus
  go_wp2_with fail
  refine (FormatMetadata_ok A m5 c fs w13 (HR.out.1.after H13.out.2) HG.out HU.out).mono ?_
  rintro e w14 ⟨A14, c14, rfl, ho14, hb14⟩
  have S_of : ∀ V, Below w14.heap.size w14 V → (convert 30 9 (.slice A14 (encKVs fs).length c14)).run Tryd.prog V = .ok (.string ⟨(encKVs fs).toArray⟩) V := fun V hV => run_strB (c := c14) (ho14.rb.after hV)
  have H14 := Lib.hid (⟨H13.out.1.after hb14, below_seq H13.out.2 hb14 H13.out.2.size⟩ : _ ∧ _)
  have hr14 : KvS w14.drew w14.drew.heap.size A1 m5 fs := H14.out.1.after (Below.refl _ _).drew
  have hf2 : ∀ f ∈ fs, f.key.size ≤ 100 ∧ f.val.size ≤ 300 := fun f hf => (HF.out f hf).2
  have HS := Lib.hid (⟨hr14, hf2⟩ : _ ∧ _)
  clear ho14 hb14 hr14 hf2
  go_wp2_with fail
  refine wp_region_held_drew (S := (fun V => (convert 30 9 (.slice A14 (encKVs fs).length c14)).run Tryd.prog V = .ok (.string ⟨(encKVs fs).toArray⟩) V)) (by kernel_rfl) (S_of _ (Below.refl _ _).drew) (fun hHeld => ?_)
  refine wpAnyH_take (i := 0) (v := ?_) (by simp only [List.getElem?_toArray, List.getElem?_cons_zero]; rfl) (by kernel_rfl) (by kernel_rfl) (by kernel_rfl) (by exact fun _ _ _ h => h) (Or.inl ⟨by rfl, ?_⟩) (by assumption) ?_
  rotate_left
  · intro w hSw
    try dsimp only at hSw
    go_simp
    try with_reducible rfl
  try go_frame
  refine wpAnyH_take (i := 1) (v := ?_) (by simp only [List.getElem?_toArray, List.getElem?_cons_zero, List.getElem?_cons_succ]; rfl) (by kernel_rfl) (by kernel_rfl) (by kernel_rfl) (by exact fun _ _ _ h => h) (Or.inl ⟨by rfl, ?_⟩) (by assumption) ?_
  rotate_left
  · intro w hSw
    try dsimp only at hSw
    go_simp
    try with_reducible rfl
  try go_frame
  refine wpAnyH_take (i := 2) (v := ?_) (by simp only [List.getElem?_toArray, List.getElem?_cons_zero, List.getElem?_cons_succ]; rfl) (by kernel_rfl) (by kernel_rfl) (by kernel_rfl) (by exact fun _ _ _ h => h) (Or.inl ⟨by rfl, ?_⟩) (by assumption) ?_
  rotate_left
  · intro w hSw
    try dsimp only at hSw
    go_simp
    try with_reducible rfl
  try go_frame
  refine wpAnyH_take (i := 3) (v := ?_) (by simp only [List.getElem?_toArray, List.getElem?_cons_zero, List.getElem?_cons_succ]; rfl) (by kernel_rfl) (by kernel_rfl) (by kernel_rfl) (by exact fun _ _ _ h => h) (Or.inl ⟨by rfl, ?_⟩) (by assumption) ?_
  rotate_left
  · intro w hSw
    try dsimp only at hSw
    go_simp
    try with_reducible rfl
  try go_frame
  refine wpAnyH_take (i := 4) (v := ?_) (by simp only [List.getElem?_toArray, List.getElem?_cons_zero, List.getElem?_cons_succ]; rfl) (by kernel_rfl) (by kernel_rfl) (by kernel_rfl) (by exact fun _ _ _ h => h) (Or.inl ⟨by rfl, ?_⟩) (by assumption) ?_
  rotate_left
  · intro w hSw
    try dsimp only at hSw
    go_simp
    try with_reducible rfl
  try go_frame
  refine wpAnyH_ready (rs := [5]) (by kernel_rfl) (by simp) ?_
  refine AllReadyH.cons (by simp only [List.getElem?_toArray, List.getElem?_cons_zero, List.getElem?_cons_succ]; rfl) (fun K hK => ?_) AllReadyH.nil
  go_simp
  (go_at_call 9)
  refine (spec_Metadata A1 m5 c1 fs w14.drew HS.out.1 hn10 HS.out.2).mono ?_
  rintro e w15 ⟨A15, n15, c15, rfl, ho15, hb15⟩
  have hb145 : Below w14.heap.size w14 w15 := (Below.refl _ w14).drew.trans hb15
  have s15 := run_strB (c := c15) ho15.rb
  try go_wp2_with fail
  refine hK.out _ _ (S_of _ hb145) (fun hHeld => ?_)
  clear hK K
  try go_frame
  refine wpAnyH_ready (rs := [6]) (by kernel_rfl) (by simp) ?_
  refine AllReadyH.cons (by simp only [List.getElem?_toArray, List.getElem?_cons_zero, List.getElem?_cons_succ]; rfl) (fun K hK => ?_) AllReadyH.nil
  go_simp
  refine hK.out _ _ (S_of _ hb145) (fun hHeld => ?_)
  clear hK K
  try go_frame
  refine wpAnyH_take (i := 7) (v := ?_) (by simp only [List.getElem?_toArray, List.getElem?_cons_zero, List.getElem?_cons_succ]; rfl) (by kernel_rfl) (by kernel_rfl) (by kernel_rfl) (by exact fun _ _ _ h => h) (Or.inl ⟨by rfl, ?_⟩) (by assumption) ?_
  rotate_left
  · intro w hSw
    try dsimp only at hSw
    go_simp
    try with_reducible rfl
  try go_frame
  refine wpAnyH_take (i := 8) (v := ?_) (by simp only [List.getElem?_toArray, List.getElem?_cons_zero, List.getElem?_cons_succ]; rfl) (by kernel_rfl) (by kernel_rfl) (by kernel_rfl) (by exact fun _ _ _ h => h) (Or.inl ⟨by rfl, ?_⟩) (by assumption) ?_
  rotate_left
  · intro w hSw
    try dsimp only at hSw
    go_simp
    try with_reducible rfl
  try go_frame
  refine wpAnyH_take (i := 9) (v := ?_) (by simp only [List.getElem?_toArray, List.getElem?_cons_zero, List.getElem?_cons_succ]; rfl) (by kernel_rfl) (by kernel_rfl) (by kernel_rfl) (by exact fun _ _ _ h => h) (Or.inl ⟨by rfl, ?_⟩) (by assumption) ?_
  rotate_left
  · intro w hSw
    try dsimp only at hSw
    go_simp
    try with_reducible rfl
  try go_frame
  refine wpAnyH_ready (rs := [10]) (by kernel_rfl) (by simp) ?_
  refine AllReadyH.cons (by simp only [List.getElem?_toArray, List.getElem?_cons_zero, List.getElem?_cons_succ]; rfl) (fun K hK => ?_) AllReadyH.nil
  go_simp
  (go_at_call 7)
  refine (works_any _).mono ?_
  rintro e w16 ⟨rfl, hb16⟩
  have hb146 : Below w14.heap.size w14 w16 := below_seq hb145 hb16 hb145.size
  try go_wp2_with fail
  refine hK.out _ _ (S_of _ hb146) (fun hHeld => ?_)
  clear hK K
  try go_frame
  refine wpAnyH_take (i := 11) (v := ?_) (by simp only [List.getElem?_toArray, List.getElem?_cons_zero, List.getElem?_cons_succ]; rfl) (by kernel_rfl) (by kernel_rfl) (by kernel_rfl) (by exact fun _ _ _ h => h) (Or.inl ⟨by rfl, ?_⟩) (by assumption) ?_
  rotate_left
  · intro w hSw
    try dsimp only at hSw
    go_simp
    try with_reducible rfl
  try go_frame
  refine wpAnyH_take (i := 12) (v := ?_) (by simp only [List.getElem?_toArray, List.getElem?_cons_zero, List.getElem?_cons_succ]; rfl) (by kernel_rfl) (by kernel_rfl) (by kernel_rfl) (by exact fun _ _ _ h => h) (Or.inl ⟨by rfl, ?_⟩) (by assumption) ?_
  rotate_left
  · intro w hSw
    try dsimp only at hSw
    go_simp
    try with_reducible rfl
  try go_frame
  refine wpAnyH_done (by kernel_rfl) ?_ _
  go_wp2_with fail
  go_ret
  exact ⟨rfl, below_seq H14.out.2 hb146 H14.out.2.size⟩

theorem FnMetadata_any (hr : KvS w w.heap.size A n fs) (hn : n ≤ maxLen) (hb : ∀ f ∈ fs, f.key.size ≤ maxLen ∧ f.val.size ≤ maxLen) :
    Calls Tryd.prog 3 #[.slice A n c] w fun e w' => e = .returned (.bool true) ∧ Below w.heap.size w w' := by
  cases h : (decide (n ≤ 2147483647) && fs.all kvSmall)
  · exact md_small A n c fs w hr hn hb h
  · obtain ⟨h1, h2⟩ := kvFits_parts h
    exact md_main A n c fs w hr h1 h2 h
end
end Go.Proofs.YtkpcepdalegmmaaDoor
