/- laws.FnMetadataCut: the walk. -/
import Derived.Test.YtkpcepdalegmmaaKv2
import Derived.Test.YtkpcepdalegmmaaPmc
import Derived.Test.YtkpcepdalegmmaaCmd4
namespace Go.Proofs.Ytkpcepdalegmmaa
open Go.RowKit

/-- 's[k:]' of a slice of properties. -/
def cutK (A : Option Addr) (c k size : Nat) : Option Addr := if c = k then A else A.map (·.add (k * size))
theorem run_sliceK_lo {t e : TypeId} {size bytes : Nat} (he : Elem t e size bytes) (A : Option Addr) (n c lo : Nat) (h1 : lo ≤ n) (w : World) :
    (Instr.slice t (.slice A n c) (some (.int .i64 lo)) none none).run Try.prog w = .ok (.slice (cutK A c lo size) (n - lo) (c - lo)) w := by
  obtain ⟨z, hi, hz⟩ := he.i
  obtain ⟨i, hi, hz0, hz1, hz2⟩ := info_parts hi
  simp [Instr.slice, run_underlying he.u, Instr.sliceBounds, Instr.sliceBound, asIntOf, sizeOf, typeInfo, hi, hz1, h1, cutK]
theorem KvS.cut {w : World} {B n c k : Nat} {A : Option Addr} {fs : List Kv} (h : KvS w B A n fs) (hk : k ≤ n) (hc : n ≤ c) : KvS w B (cutK A c k 2) (n - k) (fs.drop k) := by
  have := Reads.cut h hk hc
  rw [kvCells_drop] at this
  exact this
theorem KvS.of_own {w : World} {base n c : Nat} {A : Option Addr} {fs : List Kv} {t : TypeId} (h : w.ownsRow base t 2 (.slice A n c) n (kvCells fs)) : KvS w w.heap.size A n fs ∧ n ≤ c := by
  refine ⟨Reads.of_own h, ?_⟩
  rcases h.2 with ⟨hv, rfl⟩ | ⟨g, cap, cur, hv, _, _, r⟩
  · exact Nat.zero_le _
  · injection hv with _ _ hc
    rw [hc]
    exact r.1
theorem kvFits_parts {n : Nat} {fs : List Kv} (h : (decide (n ≤ 2147483647) && fs.all kvSmall) = true) : n ≤ 2147483647 ∧ ∀ f ∈ fs, f.key.size ≤ 2147483647 ∧ f.val.size ≤ 2147483647 := by
  simp only [Bool.and_eq_true, decide_eq_true_eq, List.all_eq_true, kvSmall] at h
  exact h
theorem good_parts {fs : List Kv} (h : KvGood fs) : (∀ f ∈ fs, kvFit f) ∧ fs.length ≤ 10 := by
  refine ⟨fun f hf => ?_, h.2⟩
  obtain ⟨i, hi, e⟩ := List.mem_iff_getElem.1 hf
  have h1 := h.1.1 i f hi (by rw [List.getElem?_eq_getElem hi, e])
  have h2 := h1.1
  simp only [nameOk, Bool.and_eq_true, decide_eq_true_eq] at h2
  exact ⟨h2.1.2, h1.2.1, h1.2.2⟩
theorem encKVs_le {fs : List Kv} (h : ∀ f ∈ fs, kvFit f) : (encKVs fs).length ≤ 405 * fs.length := by
  induction fs with
  | nil => simp [encKVs]
  | cons f r ih =>
    have h1 := h f (List.mem_cons_self ..)
    have h2 := ih fun x hx => h x (List.mem_cons_of_mem _ hx)
    have e : encKVs (f :: r) = encKV f ++ encKVs r := by simp [encKVs]
    rw [e, List.length_append, List.length_cons, encKV_length]
    have := h1.2.1
    have := h1.2.2
    omega
theorem kvLast {n : Nat} {fs : List Kv} (hl : fs.length = n) (h0 : 0 < n) : ∃ f, f ∈ fs ∧ encKVs fs = encKVs (fs.take (n - 1)) ++ encKV f ∧ encKVs (fs.drop (n - 1)) = encKV f := by
  have h1 : n - 1 < fs.length := by omega
  have e : fs.drop (n - 1) = [fs[n - 1]] := by
    rw [List.drop_eq_getElem_cons h1, List.drop_eq_nil_of_le (by omega)]
  have e3 : fs = fs.take (n - 1) ++ [fs[n - 1]] := by rw [← e, List.take_append_drop]
  have e4 : ∀ (l : List Kv) (f : Kv), encKVs (l ++ [f]) = encKVs l ++ encKV f := fun l f => by simp [encKVs]
  exact ⟨fs[n - 1], List.getElem_mem h1, (congrArg encKVs e3).trans (e4 _ _), by rw [e]; simp [encKVs]⟩
theorem kvCut {n k m : Nat} {fs : List Kv} (hl : fs.length = n) (h0 : 0 < n) (h1 : 1 ≤ k) (h3 : (encKVs (fs.drop (n - 1))).length = m) (hk : k < m) (hw : ∀ f ∈ fs, kvFit f) :
    k ≤ (encKVs fs).length ∧ ∃ tail, (encKVs fs).take ((encKVs fs).length - k) = encKVs (fs.take (n - 1)) ++ tail ∧ CutKv tail := by
  obtain ⟨f, hf, e1, e2⟩ := kvLast hl h0
  rw [e2] at h3
  have hlen : (encKVs fs).length = (encKVs (fs.take (n - 1))).length + m := by rw [e1, List.length_append, h3]
  refine ⟨by omega, (encKV f).take (m - k), ?_, f, hw f hf, ?_, ?_, ?_⟩
  · rw [hlen, e1, List.take_append, List.take_of_length_le (by omega)]
    congr 2
    omega
  · rw [List.length_take]; omega
  · rw [List.length_take]; omega
  · rw [List.length_take, Nat.min_eq_left (by omega)]

section
variable (A : Option Addr) (n c : Nat) (fs : List Kv) (N : Int) (w : World)
theorem mc_small (hr : KvS w w.heap.size A n fs) (hn : n ≤ maxLen) (hb : ∀ f ∈ fs, f.key.size ≤ maxLen ∧ f.val.size ≤ maxLen) (h : (decide (n ≤ 2147483647) && fs.all kvSmall) = false) :
    Calls Try.prog 8 #[.slice A n c, .int .i64 N] w fun e w' => e = .returned (.bool true) ∧ Below w.heap.size w w' := by
  have h1 := Lib.hid h
  clear h
  go_enter Try.func8, Try.ntmps8
  go_wp2_with fail
  refine (zzFits3 A n c fs w hr hn hb).mono ?_
  rintro e w' ⟨rfl, hb1⟩
  rw [h1.out]
  go_wp2_with fail
  go_ret
  exact ⟨rfl, hb1⟩

set_option maxRecDepth 100000 in
theorem mc_main (hr : KvS w w.heap.size A n fs) (hn : n ≤ 2147483647) (hb : ∀ f ∈ fs, f.key.size ≤ 2147483647 ∧ f.val.size ≤ 2147483647) (h : (decide (n ≤ 2147483647) && fs.all kvSmall) = true) :
    Calls Try.prog 8 #[.slice A n c, .int .i64 N] w fun e w' => e = .returned (.bool true) ∧ Below w.heap.size w w' := by
  have h1 := Lib.hid h
  clear h
  have hl := Lib.hid hr.len
  go_enter Try.func8, Try.ntmps8
  go_wp2_with fail
  refine (zzFits3 A n c fs w hr (by unfold maxLen; omega) (fun f hf => by unfold maxLen; have := hb f hf; omega)).mono ?_
  rintro e w1 ⟨rfl, hb1⟩
  rw [h1.out]
  go_wp2_with fail
  refine (pairs A n c fs w1 (hr.after hb1) hn).mono ?_
  rintro e w2 ⟨A1, c1, rfl, ho, hb2⟩
  have hb12 := below_seq hb1 hb2 hb1.size
  obtain ⟨hr2, hc1⟩ := KvS.of_own ho
  clear ho hb1 hb2
  go_wp2_with fail
  refine (spec_Properties A1 n c1 fs w2 hr2 hn hb).mono ?_
  rintro e w3 ⟨b, rfl, hgood, hb3⟩
  have hb13 := below_seq hb12 hb3 hb12.size
  have hr3 := hr2.after hb3
  cases b
  · clear hr hr2 hr3 hb hgood
    go_wp2_with fail
    refine (works_any _).mono ?_
    rintro e w' ⟨rfl, hb⟩
    go_wp2_with fail
    go_ret
    exact ⟨rfl, below_seq hb13 hb hb13.size⟩
  · by_cases h0 : n = 0
    · subst h0
      clear hr hr2 hr3 hb hgood
      go_wp2_with fail
      refine (works_any _).mono ?_
      rintro e w' ⟨rfl, hb⟩
      go_wp2_with fail
      go_ret
      exact ⟨rfl, below_seq hb13 hb hb13.size⟩
    · have cut := fun W => run_sliceK_lo elSpecKv A1 n c1 (n - 1) (by omega) W
      obtain ⟨hfit, h10⟩ := good_parts (hgood rfl)
      have HR := Lib.hid hr3
      have HF := Lib.hid hfit
      have hn10 : n ≤ 10 := by rw [← hl.out]; exact h10
      have hnn : ((n : Int) == 0) = false := by rw [beq_eq_false_iff_ne]; omega
      have hn1 : (n : Int) - 1 = ((n - 1 : Nat) : Int) := by omega
      clear hr hr2 hr3 hb hfit h10 hgood
      go_wp2_with fail
      have hcutr := HR.out.cut (k := n - 1) (by omega) hc1
      refine (spec_Metadata (cutK A1 c1 (n - 1) 2) (n - (n - 1)) (c1 - (n - 1)) (fs.drop (n - 1)) w3 hcutr (by omega) (fun f hf => (HF.out f (List.mem_of_mem_drop hf)).2)).mono ?_
      rintro e w4 ⟨A3, n3, c3, rfl, ho3, hb4⟩
      have hb14 := below_seq hb13 hb4 hb13.size
      have hr4 := Lib.hid (HR.out.after hb4)
      have hn3 := Lib.hid ho3.len
      have hc3 := ho3.cap
      have hm3 : n3 ≤ 9223372036854775807 := by have := hc3.2; unfold maxLen at this; omega
      clear cut hcutr ho3 hb4 hb13 hnn hn1 hc3
      by_cases g1 : N < 1
      · go_wp2_with fail
        refine (works_any _).mono ?_
        rintro e w' ⟨rfl, hb⟩
        go_wp2_with fail
        go_ret
        exact ⟨rfl, below_seq hb14 hb hb14.size⟩
      · by_cases g2 : (n3 : Int) ≤ N
        · go_wp2_with fail
          refine (works_any _).mono ?_
          rintro e w' ⟨rfl, hb⟩
          go_wp2_with fail
          go_ret
          exact ⟨rfl, below_seq hb14 hb hb14.size⟩
        · obtain ⟨k, rfl⟩ := Int.eq_ofNat_of_zero_le (by omega : 0 ≤ N)
          go_wp2_with fail
          refine (spec_Metadata A1 n c1 fs w4 hr4.out hn10 (fun f hf => (HF.out f hf).2)).mono ?_
          rintro e w5 ⟨A5, n5, c5, rfl, ho5, hb5⟩
          have hb15 := below_seq hb14 hb5 hb14.size
          obtain ⟨hle, tail, hT, hcut⟩ := kvCut (n := n) (k := k) (fs := fs) hl.out (by omega) (by omega) hn3.out (by omega) HF.out
          have hlen5 := ho5.len
          have hbig := encKVs_le HF.out
          rw [hlen5] at hT hle hbig
          rw [hl.out] at hbig
          have cut2 := fun W => run_slice_hi A5 n5 c5 W (n5 - k) (by have := ho5.cap.1; omega)
          have hsub : (n5 : Int) - (k : Int) = ((n5 - k : Nat) : Int) := by omega
          have hrp := ho5.rb.take (m := n5 - k) (by omega)
          have hc5 : n5 - k ≤ c5 := by have := ho5.cap.1; omega
          have HST := Lib.hid (⟨hT, hcut⟩ : _ ∧ _)
          have htk : (fs.take (n - 1)).length ≤ 10 := by rw [List.length_take]; have := hl.out; omega
          clear hT hcut ho5 hb5 hlen5 hb14
          go_wp2_with fail
          refine (ParseMetadata_cut A5 (n5 - k) c5 _ tail (fs.take (n - 1)) w5 hrp (by omega) hc5 HST.out.1 (fun f hf => HF.out f (List.mem_of_mem_take hf)) htk HST.out.2).mono ?_
          rintro e w6 ⟨rfl, hb6⟩
          have hb16 := below_seq hb15 hb6 hb15.size
          clear hrp cut2 hsub
          go_wp2_with fail
          refine (works_any _).mono ?_
          rintro e w' ⟨rfl, hb⟩
          go_wp2_with fail
          go_ret
          exact ⟨rfl, below_seq hb16 hb hb16.size⟩

theorem FnMetadataCut_any (hr : KvS w w.heap.size A n fs) (hn : n ≤ maxLen) (hb : ∀ f ∈ fs, f.key.size ≤ maxLen ∧ f.val.size ≤ maxLen) :
    Calls Try.prog 8 #[.slice A n c, .int .i64 N] w fun e w' => e = .returned (.bool true) ∧ Below w.heap.size w w' := by
  cases h : (decide (n ≤ 2147483647) && fs.all kvSmall)
  · exact mc_small A n c fs N w hr hn hb h
  · obtain ⟨h1, h2⟩ := kvFits_parts h
    exact mc_main A n c fs N w hr h1 h2 h
end
end Go.Proofs.Ytkpcepdalegmmaa
