/- A store into a row of bytes of the call's own. -/
import Derived.Test.YtkpcepdalegmmaaBytes3
namespace Go.Proofs.Ytkpcepdalegmmaa
open Go.RowKit

theorem OB.row {w : World} {base n c : Nat} {A : Option Addr} {l : List UInt8} (h : OB w base A n c l) (hn : 0 < n) :
    ∃ g cur, A = some ⟨g, 0, none⟩ ∧ base ≤ g ∧ Blk w g 5 cur ∧ (∀ i (b : UInt8), i < n → OB (w.setCell ⟨g, i, none⟩ (.int .u8 b.toNat)) base A n c (l.set i b)) := by
  have hl := h.len
  rcases h.2 with ⟨hv, rfl⟩ | ⟨g, cap, cur, hv, hg, hh, r⟩
  · omega
  · injection hv with hA _ hc
    subst hA hc
    refine ⟨g, cur, rfl, hg, hh, fun i b hi => ?_⟩
    refine ⟨by simp [hl], .inr ⟨g, _, cur.setIfInBounds i (.int .u8 b.toNat), rfl, hg, Blk.set_ hh i _, ?_⟩⟩
    obtain ⟨h1, h2, h3, h4⟩ := r
    refine ⟨h1, h2, by simpa using h3, ?_⟩
    rw [Array.toList_setIfInBounds, List.take_set, h4]
    simp [bv, List.map_set]
end Go.Proofs.Ytkpcepdalegmmaa
