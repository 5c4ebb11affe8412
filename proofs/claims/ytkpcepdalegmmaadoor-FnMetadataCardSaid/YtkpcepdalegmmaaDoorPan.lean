/- A slice expression that panics: the world moves by draws alone. -/
import Derived.Test.YtkpcepdalegmmaaDoorWords
import Derived.Laws.Panics
import Derived.Laws.PanicsMore
namespace Go.Proofs.YtkpcepdalegmmaaDoor
open Go.RowKit

section
variable {P : Program} {w : World}
theorem run_boundsPanicN {α : Type} (k : IntKind) (x y : Int) (code : BoundsCode) :
    ∃ s n, (boundsPanic k x y code : Sem α).run P w = .halt (.panic (boundsValue P (IntKind.i64.wrap x) y s code.toNat)) (w.drewN n) := by
  unfold boundsPanic boundsValue
  split
  · exact ⟨_, 1, by simp [runtimePanic, goPanic, go_sem]; exact ⟨rfl, rfl⟩⟩
  · exact ⟨_, 0, by simp [runtimePanic, goPanic, go_sem]; exact ⟨rfl, rfl⟩⟩
theorem run_sliceBound_panicsN (k : IntKind) (i : Int) (y : Nat) (code : BoundsCode) (ho : i < 0 ∨ (y : Int) < i) :
    ∃ s n, (Instr.sliceBound (.int k i) y code).run P w = .halt (.panic (boundsValue P (IntKind.i64.wrap i) y s code.toNat)) (w.drewN n) := by
  have hn : ¬ (0 ≤ i ∧ i ≤ (y : Int)) := by omega
  have e1 : (Instr.sliceBound (.int k i) y code).run P w = (boundsPanic k i y code).run P w := by
    simp [Instr.sliceBound, asIntOf, hn, go_sem]
  rw [e1]
  exact run_boundsPanicN k i y code
theorem run_sliceBounds_high_outN (isSlice : Bool) (len cap : Nat) (low : Option Value) (k : IntKind) (h : Int) (ho : h < 0 ∨ (cap : Int) < h) :
    ∃ s n, (Instr.sliceBounds isSlice len cap low (some (.int k h)) none).run P w = .halt (.panic (boundsValue P (IntKind.i64.wrap h) cap s (if isSlice then 2 else 1))) (w.drewN n) := by
  obtain ⟨s, n, e⟩ := run_sliceBound_panicsN (P := P) (w := w) k h cap (if isSlice then .sliceAcap else .sliceAlen) ho
  have hn : ¬ (0 ≤ h ∧ h ≤ (cap : Int)) := by omega
  refine ⟨s, n, ?_⟩
  cases isSlice
  · simp [Instr.sliceBounds, go_sem] at e ⊢
    rw [if_neg hn] at e ⊢
    rw [e]
    rfl
  · simp [Instr.sliceBounds, go_sem] at e ⊢
    rw [if_neg hn] at e ⊢
    rw [e]
    rfl
theorem run_slice_high_panics (t e : TypeId) (ht : P.underlying t = some (.slice e)) (a : Option Addr) (len cap : Nat) (low : Option Value) (k : IntKind) (h : Int) (ho : h < 0 ∨ (cap : Int) < h) :
    ∃ pv n, (Instr.slice t (.slice a len cap) low (some (.int k h)) none).run P w = .halt (.panic (.iface P.rt.boundsError pv)) (w.drewN n) := by
  obtain ⟨s, n, e1⟩ := run_sliceBounds_high_outN (P := P) (w := w) true len cap low k h ho
  exact ⟨_, n, run_slice_of_bounds t e a len cap low (some (.int k h)) none ht e1⟩
end
end Go.Proofs.YtkpcepdalegmmaaDoor
