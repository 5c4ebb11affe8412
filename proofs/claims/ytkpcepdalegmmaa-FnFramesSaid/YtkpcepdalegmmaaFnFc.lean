/- laws.FnFramesCut: the walk. -/
import Derived.Test.YtkpcepdalegmmaaPf3
import Derived.Test.YtkpcepdalegmmaaCut
import Derived.Test.YtkpcepdalegmmaaCmd4
namespace Go.Proofs.Ytkpcepdalegmmaa
open Go.RowKit

/-- 's[k:]' of whatever slice. -/
def cutT (A : Option Addr) (c k size : Nat) : Option Addr := if c = k then A else A.map (·.add (k * size))
theorem run_sliceT_lo {t e : TypeId} {size bytes : Nat} (he : Elem t e size bytes) (A : Option Addr) (n c lo : Nat) (h1 : lo ≤ n) (w : World) :
    (Instr.slice t (.slice A n c) (some (.int .i64 lo)) none none).run Try.prog w = .ok (.slice (cutT A c lo size) (n - lo) (c - lo)) w := by
  obtain ⟨z, hi, hz⟩ := he.i
  obtain ⟨i, hi, hz0, hz1, hz2⟩ := info_parts hi
  simp [Instr.slice, run_underlying he.u, Instr.sliceBounds, Instr.sliceBound, asIntOf, sizeOf, typeInfo, hi, hz1, h1, cutT]
theorem cellsOf_drop (fs : List Fr) (k : Nat) : (cellsOf fs).drop (k * 3) = cellsOf (fs.drop k) := by
  induction k generalizing fs with
  | zero => simp
  | succ k ih =>
    cases fs with
    | nil => simp [cellsOf]
    | cons f r =>
      have e : (k + 1) * 3 = k * 3 + 3 := by omega
      rw [e, List.drop_succ_cons, ← ih r]
      rfl
theorem FrS.cut {w : World} {B n c k : Nat} {A : Option Addr} {fs : List Fr} (h : FrS w B A n fs) (hk : k ≤ n) (hc : n ≤ c) : FrS w B (cutT A c k 3) (n - k) (fs.drop k) :=
  ⟨by have := h.1.cut hk hc; rw [cellsOf_drop] at this; exact this, fun f hf => h.2 f (List.mem_of_mem_drop hf)⟩

theorem run_small {v : Bool} {fs : List Fr} (h : goodRun v fs = true) : ∀ f ∈ fs, f.n ≤ 1000 := by
  induction fs generalizing v with
  | nil => exact fun f hf => by cases hf
  | cons f r ih =>
    simp only [goodRun, Bool.and_eq_true] at h
    intro x hx
    rcases List.mem_cons.1 hx with rfl | h1
    · by_cases hb : 1000 < x.n
      · rw [badF_big hb] at h
        simp at h
      · omega
    · exact ih h.2 x h1
theorem proper_parts {fs : List Fr} (h : proper fs = true) : (∀ f ∈ fs, f.n ≤ 1000) ∧ fs.length ≤ 20 := by
  simp only [proper, Bool.and_eq_true, decide_eq_true_eq] at h
  exact ⟨run_small h.1, h.2⟩
theorem fits_parts {n : Nat} {fs : List Fr} (h : (decide (n ≤ 2147483647) && fs.all small) = true) : n ≤ 2147483647 ∧ ∀ f ∈ fs, f.n ≤ 2147483647 := by
  simp only [Bool.and_eq_true, decide_eq_true_eq, List.all_eq_true, small] at h
  exact h
theorem FrS.of_own {w : World} {base n c : Nat} {A : Option Addr} {fs : List Fr} {t : TypeId} (h : w.ownsRow base t 3 (.slice A n c) n (cellsOf fs)) (hb : Bodies w w.heap.size fs) : FrS w w.heap.size A n fs ∧ n ≤ c := by
  refine ⟨⟨Reads.of_own h, hb⟩, ?_⟩
  rcases h.2 with ⟨hv, rfl⟩ | ⟨g, cap, cur, hv, _, _, r⟩
  · exact Nat.zero_le _
  · injection hv with _ _ hc
    rw [hc]
    exact r.1

theorem encF_le {f : Fr} (h : wfF f) : (encF f).length ≤ 1009 := by
  have h1 := h.1
  have h2 := h.2
  by_cases hl : 255 < f.n
  · rw [encF_long hl]; simp [seven]; omega
  · rw [encF_short hl]; simp; omega
theorem encs_le {fs : List Fr} (h : ∀ f ∈ fs, wfF f) : (encs fs).length ≤ 1009 * fs.length := by
  induction fs with
  | nil => simp [encs]
  | cons f r ih =>
    have h1 := encF_le (h f (List.mem_cons_self ..))
    have h2 := ih fun x hx => h x (List.mem_cons_of_mem _ hx)
    have e : encs (f :: r) = encF f ++ encs r := by simp [encs]
    rw [e, List.length_append, List.length_cons]
    omega
theorem last_of {n : Nat} {fs : List Fr} (hl : fs.length = n) (h0 : 0 < n) : ∃ f, fs = fs.take (n - 1) ++ [f] ∧ fs.drop (n - 1) = [f] := by
  have h1 : n - 1 < fs.length := by omega
  have e : fs.drop (n - 1) = [fs[n - 1]] := by
    rw [List.drop_eq_getElem_cons h1, List.drop_eq_nil_of_le (by omega)]
  exact ⟨_, by rw [← e, List.take_append_drop], e⟩
theorem cut_le {n k n3 : Nat} {fs : List Fr} (hl : fs.length = n) (h0 : 0 < n) (h3 : (encs (fs.drop (n - 1))).length = n3) (hk : k < n3) : k ≤ (encs fs).length := by
  obtain ⟨f, e1, e2⟩ := last_of hl h0
  rw [e2] at h3
  have e : encs fs = encs (fs.take (n - 1)) ++ encs [f] := by
    conv => lhs; rw [e1]
    simp [encs]
  rw [e, List.length_append]
  omega
theorem cut_stream {n k n3 : Nat} {fs : List Fr} (hl : fs.length = n) (h0 : 0 < n) (h1 : 1 ≤ k) (h3 : (encs (fs.drop (n - 1))).length = n3) (hk : k < n3) (hw : ∀ f ∈ fs, wfF f) : ∃ ms, Stream ((encs fs).take ((encs fs).length - k)) ms false := by
  obtain ⟨f, e1, e2⟩ := last_of hl h0
  rw [e2] at h3
  have hk2 : k < (encF f).length := by rw [← h3] at hk; simpa [encs] using hk
  obtain ⟨c1, c2, c3⟩ := cut_bytes (fs.take (n - 1)) f k h1 hk2
  rw [← e1] at c1
  rw [c1]
  have hwf : wfF f := hw f (by rw [e1]; simp)
  exact stream_cut f _ hwf c3 c2 _ _ (Nat.le_refl _) (fun x hx => hw x (List.mem_of_mem_take hx))

section
variable (A : Option Addr) (n c : Nat) (fs : List Fr) (N : Int) (w : World)
theorem fc_small (hr : FrS w w.heap.size A n fs) (hn : n ≤ maxLen) (hb : ∀ f ∈ fs, f.n ≤ maxLen) (h : (decide (n ≤ 2147483647) && fs.all small) = false) :
    Calls Try.prog 6 #[.slice A n c, .int .i64 N] w fun e w' => e = .returned (.bool true) ∧ Below w.heap.size w w' := by
  have h1 := Lib.hid h
  clear h
  go_enter Try.func6, Try.ntmps6
  go_wp2_with fail
  refine (zzFits1 A n c fs w hr hn hb).mono ?_
  rintro e w' ⟨rfl, hb1⟩
  rw [h1.out]
  go_wp2_with fail
  go_ret
  exact ⟨rfl, hb1⟩

set_option maxRecDepth 100000 in
theorem fc_main (hr : FrS w w.heap.size A n fs) (hn : n ≤ 2147483647) (hb : ∀ f ∈ fs, f.n ≤ 2147483647) (h : (decide (n ≤ 2147483647) && fs.all small) = true) :
    Calls Try.prog 6 #[.slice A n c, .int .i64 N] w fun e w' => e = .returned (.bool true) ∧ Below w.heap.size w w' := by
  have h1 := Lib.hid h
  clear h
  have hl := Lib.hid hr.len
  go_enter Try.func6, Try.ntmps6
  go_wp2_with fail
  refine (zzFits1 A n c fs w hr (by unfold maxLen; omega) (fun f hf => by unfold maxLen; have := hb f hf; omega)).mono ?_
  rintro e w1 ⟨rfl, hb1⟩
  rw [h1.out]
  go_wp2_with fail
  refine (frames A n c fs w1 (hr.after hb1) hn).mono ?_
  rintro e w2 ⟨A1, c1, rfl, ho, hb2⟩
  have hb12 := below_seq hb1 hb2 hb1.size
  obtain ⟨hr2, hc1⟩ := FrS.of_own ho ((hr.2.after hb1).after hb2)
  clear ho hb1 hb2
  go_wp2_with fail
  refine (spec_Proper A1 n c1 fs w2 hr2 hn hb).mono ?_
  rintro e w3 ⟨rfl, hb3⟩
  have hb13 := below_seq hb12 hb3 hb12.size
  have hr3 := hr2.after hb3
  cases hp : proper fs
  · clear hr hr2 hr3 hb
    go_wp2_with fail
    refine (works_any _).mono ?_
    rintro e w' ⟨rfl, hb⟩
    go_wp2_with fail
    go_ret
    exact ⟨rfl, below_seq hb13 hb hb13.size⟩
  · by_cases h0 : n = 0
    · subst h0
      clear hr hr2 hr3 hb
      go_wp2_with fail
      refine (works_any _).mono ?_
      rintro e w' ⟨rfl, hb⟩
      go_wp2_with fail
      go_ret
      exact ⟨rfl, below_seq hb13 hb hb13.size⟩
    · have cut := fun W => run_sliceT_lo elSpec A1 n c1 (n - 1) (by omega) W
      obtain ⟨hsm, h20⟩ := proper_parts hp
      have HR := Lib.hid hr3
      have HSM := Lib.hid hsm
      have hn20 : n ≤ 20 := by rw [← hl.out]; exact h20
      have hnn : ((n : Int) == 0) = false := by rw [beq_eq_false_iff_ne]; omega
      have hn1 : (n : Int) - 1 = ((n - 1 : Nat) : Int) := by omega
      clear hr hr2 hr3 hb hsm h20 hp
      go_wp2_with fail
      have hcutr := HR.out.cut (k := n - 1) (by omega) hc1
      refine (spec_Frames (cutT A1 c1 (n - 1) 3) (n - (n - 1)) (c1 - (n - 1)) (fs.drop (n - 1)) w3 hcutr (by omega) (fun f hf => HSM.out f (List.mem_of_mem_drop hf))).mono ?_
      rintro e w4 ⟨A3, n3, c3, rfl, ho3, hb4⟩
      have hb14 := below_seq hb13 hb4 hb13.size
      have hr4 := Lib.hid (HR.out.after hb4)
      have hn3 := Lib.hid ho3.len
      have hc3 := ho3.cap
      have hm3 : n3 ≤ 9223372036854775807 := by have := hc3.2; unfold maxLen at this; omega
      clear cut hcutr ho3 hb4 hb13 hnn hn1 hc3
      by_cases g1 : N < 1
      · go_wp2_with fail
        refine (works_any _).mono ?_
        rintro e w' ⟨rfl, hb⟩
        go_wp2_with fail
        go_ret
        exact ⟨rfl, below_seq hb14 hb hb14.size⟩
      · by_cases g2 : (n3 : Int) ≤ N
        · go_wp2_with fail
          refine (works_any _).mono ?_
          rintro e w' ⟨rfl, hb⟩
          go_wp2_with fail
          go_ret
          exact ⟨rfl, below_seq hb14 hb hb14.size⟩
        · obtain ⟨k, rfl⟩ := Int.eq_ofNat_of_zero_le (by omega : 0 ≤ N)
          go_wp2_with fail
          refine (spec_Frames A1 n c1 fs w4 hr4.out hn20 HSM.out).mono ?_
          rintro e w5 ⟨A5, n5, c5, rfl, ho5, hb5⟩
          have hb15 := below_seq hb14 hb5 hb14.size
          have hst := cut_stream (n := n) (k := k) (fs := fs) hl.out (by omega) (by omega) hn3.out (by omega) (fun f hf => ⟨(hr4.out.2 f hf).1.len, HSM.out f hf⟩)
          have hlen5 := ho5.len
          have hle := cut_le (n := n) (k := k) (fs := fs) hl.out (by omega) hn3.out (by omega)
          have hbig := encs_le (fun f hf => (⟨(hr4.out.2 f hf).1.len, HSM.out f hf⟩ : wfF f))
          rw [hlen5] at hst hle hbig
          rw [hl.out] at hbig
          have cut2 := fun W => run_slice_hi A5 n5 c5 W (n5 - k) (by have := ho5.cap.1; omega)
          have hsub : (n5 : Int) - (k : Int) = ((n5 - k : Nat) : Int) := by omega
          have hrp := ho5.rb.take (m := n5 - k) (by omega)
          have HST := Lib.hid hst
          clear hst ho5 hb5 hlen5 hb14
          go_wp2_with fail
          obtain ⟨ms, hs⟩ := HST.out
          refine (ParseFrames A5 (n5 - k) c5 _ ms false w5 hrp (by omega) hs).mono ?_
          rintro e w6 ⟨_, hno, hb6⟩
          obtain rfl := hno rfl
          have hb16 := below_seq hb15 hb6 hb15.size
          clear hno hrp cut2 hsub
          go_wp2_with fail
          refine (works_any _).mono ?_
          rintro e w' ⟨rfl, hb⟩
          go_wp2_with fail
          go_ret
          exact ⟨rfl, below_seq hb16 hb hb16.size⟩

theorem FnFramesCut_any (hr : FrS w w.heap.size A n fs) (hn : n ≤ maxLen) (hb : ∀ f ∈ fs, f.n ≤ maxLen) :
    Calls Try.prog 6 #[.slice A n c, .int .i64 N] w fun e w' => e = .returned (.bool true) ∧ Below w.heap.size w w' := by
  cases h : (decide (n ≤ 2147483647) && fs.all small)
  · exact fc_small A n c fs N w hr hn hb h
  · obtain ⟨h1, h2⟩ := fits_parts h
    exact fc_main A n c fs N w hr h1 h2 h
end
end Go.Proofs.Ytkpcepdalegmmaa
