/- Frames: spec.Proper. -/
import Derived.Test.YtkpcepdalegmmaaFr2
namespace Go.Proofs.Ytkpcepdalegmmaa
open Go.RowKit

def badF (within : Bool) (f : Fr) : Bool := decide (1000 < f.n) || (f.cmd && (f.more || within))
def goodRun : Bool → List Fr → Bool
  | within, [] => !within
  | within, f :: r => !badF within f && goodRun f.more r
def proper (fs : List Fr) : Bool := goodRun false fs && decide (fs.length ≤ 20)

theorem badF_big {v : Bool} {f : Fr} (h : 1000 < f.n) : badF v f = true := by unfold badF; rw [decide_eq_true h]; rfl
theorem badF_small {v : Bool} {f : Fr} (h : ¬ 1000 < f.n) : badF v f = (f.cmd && (f.more || v)) := by unfold badF; rw [decide_eq_false h]; rfl
theorem run_no {fs : List Fr} {k : Nat} {f : Fr} {v : Bool} (hf : fs[k]? = some f) (h : goodRun false fs = goodRun v (fs.drop k)) (hb : badF v f = true) : proper fs = false := by
  obtain ⟨hk, e⟩ := List.getElem?_eq_some_iff.1 hf
  unfold proper
  rw [h, List.drop_eq_getElem_cons hk, e]
  simp [goodRun, hb]
theorem run_yes {fs : List Fr} {k : Nat} {f : Fr} {v : Bool} (hf : fs[k]? = some f) (h : goodRun false fs = goodRun v (fs.drop k)) (hb : badF v f = false) : goodRun false fs = goodRun f.more (fs.drop (k + 1)) := by
  obtain ⟨hk, e⟩ := List.getElem?_eq_some_iff.1 hf
  rw [h, List.drop_eq_getElem_cons hk, e]
  simp [goodRun, hb]
theorem run_end {fs : List Fr} {k : Nat} {v : Bool} (hk : fs.length ≤ k) (h : goodRun false fs = goodRun v (fs.drop k)) : proper fs = (decide (fs.length ≤ 20) && !v) := by
  unfold proper
  rw [h, List.drop_eq_nil_of_le hk]
  simp [goodRun, Bool.and_comm]

set_option maxRecDepth 100000 in
theorem spec_Proper (A : Option Addr) (n c : Nat) (fs : List Fr) (w : World) (hr : FrS w w.heap.size A n fs) (hn : n ≤ 2147483647) (hb : ∀ f ∈ fs, f.n ≤ 2147483647) :
    Calls Try.prog 20 #[.slice A n c] w fun e w' => e = .returned (.bool (proper fs)) ∧ Below w.heap.size w w' := by
  have hl := Lib.hid hr.len
  go_enter Try.func20, Try.ntmps20
  go_wp2_with fail
  go_loopw [3, 8] (fun v i wr => ∃ (k : Nat) (b : Bool), k ≤ n ∧ i = .int .i64 k ∧ v = .bool b ∧ Hid (goodRun false fs = goodRun b (fs.drop k)) ∧ Below w.heap.size w wr) (fun _ i _ => n - (intOf i).toNat)
  case atStart => exact ⟨0, false, Nat.zero_le _, rfl, rfl, Lib.hid rfl, Below.refl _ _⟩
  case round =>
    obtain ⟨k, b, hk, rfl, rfl, hrun, hbl⟩ := hrel
    by_cases hkn : k < n
    · obtain ⟨ad, f, rfl, hadb, hf, h1, h2, h3⟩ := (hr.after hbl).at_ hkn
      have hf' := Lib.hid hf
      have hfn := hb f (List.mem_of_getElem? hf)
      obtain ⟨cmd, more, fA, fn, fc, body⟩ := f
      simp only at h1 h2 h3 hfn
      clear hf hb
      have hbl2 := hbl.alloc hbl.size (.cells #[.bool cmd, .bool more, .slice fA fn fc] 73)
      by_cases hbig : 1000 < fn
      · have hno := Lib.hid (run_no hf'.out hrun.out (badF_big hbig))
        clear hrun hf'
        go_wp2_with fail
        go_ret
        exact ⟨by rw [hno.out]; rfl, hbl2⟩
      · have hs := Lib.hid (fun v => badF_small (v := v) (f := ⟨cmd, more, fA, fn, fc, body⟩) hbig)
        cases cmd
        · have hyes := Lib.hid (run_yes hf'.out hrun.out (by rw [hs.out]; rfl))
          clear hs hrun hf'
          go_wp2_with fail
          go_roundw
          case rel => exact ⟨k + 1, more, by omega, by go_num, rfl, hyes, hbl2⟩
          case measure => simp [intOf]; omega
        · cases more
          · cases b
            · have hyes := Lib.hid (run_yes hf'.out hrun.out (by rw [hs.out]; rfl))
              clear hs hrun hf'
              go_wp2_with fail
              go_roundw
              case rel => exact ⟨k + 1, false, by omega, by go_num, rfl, hyes, hbl2⟩
              case measure => simp [intOf]; omega
            · have hno := Lib.hid (run_no hf'.out hrun.out (by rw [hs.out]; rfl))
              clear hs hrun hf'
              go_wp2_with fail
              go_ret
              exact ⟨by rw [hno.out]; rfl, hbl2⟩
          · have hno := Lib.hid (run_no hf'.out hrun.out (by rw [hs.out]; rfl))
            clear hs hrun hf'
            go_wp2_with fail
            go_ret
            exact ⟨by rw [hno.out]; rfl, hbl2⟩
    · have hkn' : k = n := by omega
      have he := Lib.hid (run_end (by rw [hl.out]; omega) hrun.out)
      subst hkn'
      clear hrun hb
      by_cases h20 : k ≤ 20
      · go_wp2_with fail
        go_ret
        exact ⟨by rw [he.out, hl.out, decide_eq_true h20]; rfl, hbl⟩
      · have h20' := Lib.hid h20
        go_wp2_with fail
        go_ret
        exact ⟨by rw [he.out, hl.out, decide_eq_false h20'.out]; rfl, hbl⟩
end Go.Proofs.Ytkpcepdalegmmaa
