/- A block whose first bytes are written in place: what []byte(s) makes. -/
import Derived.Test.YtkpcepdalegmmaaDoorBytes3
namespace Go.Proofs.YtkpcepdalegmmaaDoor
open Go.RowKit

/-- Block g begins with the bytes l, none of them frozen. -/
def WB (w : World) (g : Nat) (l : List UInt8) : Prop := g < w.heap.size ∧ ∀ j, j < l.length → w.cell? ⟨g, j, none⟩ = some (.int .u8 ((l.getD j 0).toNat : Int)) ∧ w.frozen? ⟨g, j, none⟩ = false
section
variable {w w' : World} {g : Nat} {l : List UInt8}
theorem WB.lt (h : WB w g l) : g < w.heap.size := h.1
theorem WB.at_ (h : WB w g l) {j : Nat} (hj : j < l.length) : w.cell? ⟨g, j, none⟩ = some (.int .u8 ((l.getD j 0).toNat : Int)) := (h.2 j hj).1
theorem WB.free (h : WB w g l) {j : Nat} (hj : j < l.length) : w.frozen? ⟨g, j, none⟩ = false := (h.2 j hj).2
theorem WB.set (h : WB w g l) {i : Nat} (b : UInt8) (u : Int) (hu : u = (b.toNat : Int)) : WB (w.setCell ⟨g, i, none⟩ (.int .u8 u)) g (l.set i b) := by
  subst hu
  refine ⟨by rw [World.size_setCell]; exact h.1, fun j hj => ?_⟩
  rw [List.length_set] at hj
  refine ⟨?_, by rw [World.frozen?_setCell]; exact h.free hj⟩
  by_cases hij : i = j
  · subst hij
    rw [World.cell?_setCell_same w _ _ (h.at_ hj)]
    simp [hj]
  · rw [World.cell?_setCell_other _ _ _ _ (fun e => hij (congrArg Addr.off e)), h.at_ hj]
    simp [List.getD_eq_getElem?_getD, hij]
theorem WB.rb (h : WB w g l) {n : Nat} (hn : l.length = n) : RB w w.heap.size (some ⟨g, 0, none⟩) n l := by
  refine ⟨by simp [hn], fun _ => ⟨_, rfl, h.1, fun j u hu => ?_⟩⟩
  have hj : j < l.length := by
    have := (List.getElem?_eq_some_iff.1 hu).1
    simpa using this
  rw [bv_get hj] at hu
  rw [Addr.add_lit, Nat.zero_add, h.at_ hj, ← hu, List.getD_eq_getElem?_getD, List.getElem?_eq_getElem hj]
  rfl
theorem WB.drew (h : WB w g l) : WB w.drew g l := h
theorem WB.below (h : WB w g l) {B : Nat} (hb : Below B w w') (hg : g < B) : WB w' g l :=
  ⟨Nat.lt_of_lt_of_le h.1 hb.size, fun j hj => ⟨(hb.cell (p := ⟨g, j, none⟩) hg).trans (h.at_ hj), (hb.frozen (p := ⟨g, j, none⟩) hg).trans (h.free hj)⟩⟩
end

section
variable {w : World} {o : Oper} {a : Act} {ops : Array Oper} {rest : List Oper} {Q : Exit → Act → World → Prop}
/-- '[]byte(s)', to be written in place. -/
theorem wpl_ofStrW (hgd : o.guard = none) (x : Operand) (hop : o.op = .convert 9 30 x) (s : ByteArray) (hx : a.eval x = .string s)
    (h : ∀ c w', WB w' w.heap.size s.data.toList → Below w.heap.size w w' → s.size ≤ c →
      wpList Tryd.prog ops Q rest (a.put o.dst (.slice (some ⟨w.heap.size, 0, none⟩) s.size c)) w') : wpList Tryd.prog ops Q (o :: rest) a w := by
  refine wpList_plain hgd fun K hK => ?_
  have hr := run_bytes_of_string (P := Tryd.prog) w 9 30 5 s Tryd.u_string Tryd.u_bytes Tryd.u_u8
  unfold Oper.wp execOp
  simp only [hop, hx, Sem.run_bind, hr, Result.andThen_ok, Sem.run_pure]
  refine hK _ _ (h _ _ ⟨by simp, fun j hj => ⟨?_, ?_⟩⟩ (((Below.refl _ w).drew).alloc (Nat.le_refl _) _) (grownCap_ge w s.size 0 5))
  · have hj' : j < s.data.size := by simpa using hj
    have hb := bytesRow_at s (grownCap w s.size 0 5) j hj'
    refine (World.cell?_alloc_mark w.drew (bytesRow s (grownCap w s.size 0 5)) 5 ((bytesRow s (grownCap w s.size 0 5)).size, (bytesRow s (grownCap w s.size 0 5)).size + 1) j).trans (hb.trans ?_)
    rw [List.getD_eq_getElem?_getD, List.getElem?_eq_getElem hj]
    rfl
  · have hj' : j < s.data.size := by simpa using hj
    refine (World.frozen?_alloc_mark w.drew (bytesRow s (grownCap w s.size 0 5)) 5 _ _ j).trans ?_
    have : j < (bytesRow s (grownCap w s.size 0 5)).size := by
      have hs : s.size = s.data.size := rfl
      simp [bytesRow]; omega
    simp; omega
end
end Go.Proofs.YtkpcepdalegmmaaDoor
