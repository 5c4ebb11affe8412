/- append([]byte{}, data...): the new array known whole, its spare cells too. -/
import Derived.Test.YtkpcepdalegmmaaDoorArr
namespace Go.Proofs.YtkpcepdalegmmaaDoor
open Go.RowKit

section
variable {w : World}
theorem zeroCells_bv (k : Nat) : (Builtin.zeroCells (Value.int .u8 0).cells k).toList = bv (List.replicate k 0) := by
  apply List.ext_getElem
  · simp [Builtin.zeroCells, Value.cells, bv]
  · intro i h1 h2
    simp [Builtin.zeroCells, Value.cells, bv, Nat.mod_one]
theorem run_appZ (tx ty : TypeId) (D : Nat) (hD : BB w D 5 []) (X : Value) (m : Nat) (l : List UInt8) (hsrc : Src Tryd.prog 1 tx X m (bv l) w) (hsz : m ≤ 70368744177664) :
    ∃ g c' w', (Builtin.append_ #[30, tx] ty #[.slice (some ⟨D, 0, none⟩) 0 0, X]).run Tryd.prog w = .ok (.slice (some ⟨g, 0, none⟩) m c') w' ∧ BB w' g 5 (l ++ List.replicate (c' - m) 0) ∧ Below w.heap.size w w' ∧ D ≤ g ∧ m ≤ c' ∧ c' ≤ maxLen := by
  obtain ⟨i, hi, hz0, hz1, hz2⟩ := info_parts Tryd.info_u8
  have hl : (bv l).length = m * 1 := by have := hsrc.newsLen; omega
  by_cases hm : m = 0
  · subst hm
    have hl0 : l = [] := List.eq_nil_of_length_eq_zero (by simpa using hl)
    subst hl0
    have hr := run_append_room_src (P := Tryd.prog) w 30 tx ty 5 i Tryd.u_bytes hi D 0 0 0 X 0 (bv []) (by rw [hz1]; exact hsrc) (by omega) (fun j hj => by simp [bv] at hj) (fun j hj => by simp [bv] at hj)
    exact ⟨D, 0, _, hr, hD, Below.refl _ _, Nat.le_refl _, Nat.le_refl _, by unfold maxLen; omega⟩
  · have hr := run_append_grow_src (P := Tryd.prog) w 30 tx ty 5 i (.int .u8 0) Tryd.u_bytes hi hz0 (some ⟨D, 0, none⟩) 0 0 [] (by simp [Builtin.firstCells, loadCells, loadCellsFrom]) X m (bv l) (by rw [hz1]; exact hsrc) (by omega) (by omega) (growslice_fits (by omega) (by rw [hz2]; omega))
    rw [Nat.zero_add] at hr
    have hge := grownCap_ge w m 0 5
    have hcm : grownCap w m 0 5 ≤ maxLen := grownCap_le_maxLen w m 0 5 (by simp only [maxLen]; omega)
    have hb := Blk.new w.drew 5 (([] ++ bv l).toArray ++ Builtin.zeroCells (Value.int .u8 0).cells (grownCap w m 0 5 - m))
    refine ⟨_, _, _, hr, ?_, (Below.refl _ w).drew.alloc (Nat.le_refl _) _, Nat.le_of_lt hD.lt, hge, hcm⟩
    unfold BB
    have e : (bv (l ++ List.replicate (grownCap w m 0 5 - m) 0)).toArray = ([] ++ bv l).toArray ++ Builtin.zeroCells (Value.int .u8 0).cells (grownCap w m 0 5 - m) := by
      apply Array.ext'
      rw [Array.toList_append, zeroCells_bv, bv_append]
      simp
    rw [e]
    exact hb
end
section
variable {w : World} {o : Oper} {a : Act} {ops : Array Oper} {rest : List Oper} {Q : Exit → Act → World → Prop}
theorem wpl_appZ (hgd : o.guard = none) (s x : Operand) (tx : TypeId)
    (ho : o.op = .call { callee := .builtin .append, args := #[s, x], argTypes := #[30, tx] })
    (D : Nat) (hs : a.eval s = .slice (some ⟨D, 0, none⟩) 0 0) (hD : BB w D 5 []) (X : Value) (m : Nat) (l : List UInt8) (hx : a.eval x = X) (hsrc : Src Tryd.prog 1 tx X m (bv l) w) (hsz : m ≤ 70368744177664)
    (h : ∀ g c' w', BB w' g 5 (l ++ List.replicate (c' - m) 0) → Below w.heap.size w w' → D ≤ g → m ≤ c' → c' ≤ maxLen → wpList Tryd.prog ops Q rest (a.put o.dst (.slice (some ⟨g, 0, none⟩) m c')) w') : wpList Tryd.prog ops Q (o :: rest) a w := by
  refine wpList_plain hgd fun K hK => ?_
  obtain ⟨g, c', w', hr, h1, h2, h3, h4, h5⟩ := run_appZ tx o.type D hD X m l hsrc hsz
  unfold Oper.wp execOp
  simp only [ho, resolve, invoke, builtin, Sem.run_bind, Sem.run_pure, Result.andThen_ok, List.map_toArray, List.map_cons, List.map_nil, hs, hx, hr]
  exact hK _ _ (h g c' w' h1 h2 h3 h4 h5)
end
end Go.Proofs.YtkpcepdalegmmaaDoor
