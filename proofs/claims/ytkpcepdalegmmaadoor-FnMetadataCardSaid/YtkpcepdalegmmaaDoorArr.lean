/- Arrays and structs of bytes as blocks; a variable made, stored and loaded whole; copy. -/
import Derived.Test.YtkpcepdalegmmaaDoorApart
import Derived.Deep.MidRow
import Derived.Deep.WholeRow
namespace Go.Proofs.YtkpcepdalegmmaaDoor
open Go.RowKit

/-- Block g holds just the bytes l (an array, a struct of bytes). -/
def BB (w : World) (g : Nat) (t : TypeId) (l : List UInt8) : Prop := Blk w g t (bv l).toArray
/-- l with x laid over it from place o on. -/
def splice (l : List UInt8) (o : Nat) (x : List UInt8) : List UInt8 := l.take o ++ x ++ l.drop (o + x.length)
theorem splice_length {l : List UInt8} {o : Nat} {x : List UInt8} (h : o + x.length ≤ l.length) : (splice l o x).length = l.length := by simp [splice]; omega

section
variable {w w' : World} {g : Nat} {t : TypeId} {l : List UInt8}
theorem BB.lt (h : BB w g t l) : g < w.heap.size := Blk.lt h
theorem BB.cell (h : BB w g t l) {i : Nat} (hi : i < l.length) : w.cell? ⟨g, i, none⟩ = some (.int .u8 ((l.getD i 0).toNat : Int)) := by
  rw [Blk.cell h i, List.getElem?_toArray, bv_get hi, List.getD_eq_getElem?_getD, List.getElem?_eq_getElem hi]; rfl
theorem BB.frozen (h : BB w g t l) (i : Nat) : w.frozen? ⟨g, i, none⟩ = false := Blk.frozen h i
theorem BB.set (h : BB w g t l) (i : Nat) (b : UInt8) : BB (w.setCell ⟨g, i, none⟩ (.int .u8 (b.toNat : Int))) g t (l.set i b) := by
  have := Blk.set_ h i (.int .u8 (b.toNat : Int))
  unfold BB
  have e : (bv (l.set i b)).toArray = (bv l).toArray.setIfInBounds i (.int .u8 (b.toNat : Int)) := by
    simp [bv, List.map_set]
  rw [e]
  exact this
theorem BB.apart {ps : List Nat} (h : BB w g t l) (ha : Apart ps w w') (hn : g ∉ ps) : BB w' g t l := ha.blk h hn
theorem BB.below {B : Nat} (h : BB w g t l) (hb : Below B w w') (hg : g < B) : BB w' g t l := Blk.below h hb hg
theorem BB.after {B : Nat} (h : BB w g t l) (hb : Below B w w') (hB : w.heap.size ≤ B) : BB w' g t l := Blk.after h hb hB
theorem BB.alloc (h : BB w g t l) (o : Obj) : BB (w.alloc o) g t l := Blk.alloc h o
theorem BB.drew (h : BB w g t l) : BB w.drew g t l := h
theorem BB.farN (h : BB w g t l) {b o : Nat} (hp : g ≠ b) (u : Value) : BB (w.setCell ⟨b, o, none⟩ u) g t l := Blk.farN h hp u
/-- A slice of the block. -/
theorem BB.rb (h : BB w g t l) {o n : Nat} (hn : o + n ≤ l.length) : RB w w.heap.size (some ⟨g, o, none⟩) n ((l.drop o).take n) := by
  refine ⟨by simp; omega, fun _ => ⟨_, rfl, h.lt, fun j u hu => ?_⟩⟩
  have hj : j < n := by
    have := (List.getElem?_eq_some_iff.1 hu).1
    simp at this
    omega
  rw [Addr.add_lit, BB.cell h (by omega)]
  rw [bv_get (by simp; omega)] at hu
  rw [← hu, List.getElem_take, List.getElem_drop, List.getD_eq_getElem?_getD, List.getElem?_eq_getElem (by omega)]
  rfl
theorem BB.mk (w : World) (t : TypeId) (l : List UInt8) : BB (w.alloc (.cells (bv l).toArray t)) w.heap.size t l := Blk.new w t _
end

section
variable {w : World} {o : Oper} {a : Act} {ops : Array Oper} {rest : List Oper} {Q : Exit → Act → World → Prop}

/-- 'var x T': T an array or a struct of bytes. -/
theorem wpl_allocB (hgd : o.guard = none) (T : TypeId) (ho : o.op = .alloc T) (l : List UInt8) (n : Nat) (hi : (Tryd.prog.info? T).map (fun i => (i.zero, i.size)) = some (some (.agg (bv l).toArray), n))
    (h : ∀ w', BB w' w.heap.size T l → Below w.heap.size w w' → w'.heap.size = w.heap.size + 1 → wpList Tryd.prog ops Q rest (a.put o.dst (.pointer (some ⟨w.heap.size, 0, none⟩))) w') : wpList Tryd.prog ops Q (o :: rest) a w := by
  refine wpList_plain hgd fun K hK => ?_
  have hz := (zero_of_info hi).1
  unfold Oper.wp execOp
  simp only [ho, Instr.alloc, Sem.run_bind, hz, Result.andThen_ok, newVar, newRow, newObj, Value.cells, Sem.run_pure]
  exact hK _ _ (h _ (BB.mk w T l) ((Below.refl _ w).alloc (Nat.le_refl _) _) (by simp))

/-- 'x = v', x and v whole arrays or structs. -/
theorem wpl_storeB (hgd : o.guard = none) (T : TypeId) (x y : Operand) (ho : o.op = .store T x y) (g : Nat) (l l' : List UInt8) (hx : a.eval x = .pointer (some ⟨g, 0, none⟩)) (hy : a.eval y = .agg (bv l').toArray) (hg : BB w g T l)
    (hl : l'.length = l.length) (hi : (Tryd.prog.info? T).map (·.size) = some l.length)
    (h : ∀ w', BB w' g T l' → Apart [g] w w' → w'.heap.size = w.heap.size → wpList Tryd.prog ops Q rest (a.put o.dst undef) w') : wpList Tryd.prog ops Q (o :: rest) a w := by
  refine wpList_plain hgd fun K hK => ?_
  have hr := run_storeVar_row (P := Tryd.prog) w g T T (bv l).toArray (bv l').toArray hg (by simpa [hl] using hi) (by simp [hl]) (all_oneCell_toArray fun v hv => bv_one hv)
  unfold Oper.wp execOp
  simp only [ho, Instr.storeAt, Instr.sureAddr, hx, hy, Sem.run_bind, Sem.run_pure, Result.andThen_ok, hr]
  refine hK _ _ (h _ (setRow_heap w g _ _ T _ hg) ⟨rfl, rfl, rfl, by simp, fun k _ hk => setRow_other w g k _ (fun e => hk (by simp [e]))⟩ (by simp))
end

section
variable {w : World}
/-- copy: n bytes of the source over a part of block g. -/
theorem run_copyB (tx ty : TypeId) (g off dLen dCap : Nat) (T : TypeId) (X : Value) (m : Nat) (l l2 : List UInt8) (n : Nat) (hg : BB w g T l) (hlen : ∀ W : World, (Builtin.lenOf X).run Tryd.prog W = .ok m W)
    (hn : Nat.min m dLen = n) (hX : (Builtin.firstCells 1 n X).run Tryd.prog w = .ok (bv l2).toArray w) (hl2 : l2.length = n) (hfit : off + n ≤ l.length) :
    ∃ w', (Builtin.copy_ #[30, tx] ty #[.slice (some ⟨g, off, none⟩) dLen dCap, X]).run Tryd.prog w = .ok (goInt n) w' ∧ BB w' g T (splice l off l2) ∧ Apart [g] w w' ∧ w'.heap.size = w.heap.size := by
  obtain ⟨i, hi, _, hz1, _⟩ := info_parts Tryd.info_u8
  have hst := run_storeCells_cells (P := Tryd.prog) g off (bv l2) 0 w (fun j hj => by rw [Nat.add_zero, BB.cell hg (by simp at hj; omega)]; rfl) (fun j _ => BB.frozen hg _) (fun u hu => bv_one hu)
  rw [Nat.add_zero] at hst
  obtain ⟨cur', hc, ht⟩ := setCells_blk w g (bv l).toArray T hg (bv l2) off (by simp; omega)
  refine ⟨w.setCells g off (bv l2), ?_, ?_, ?_, ?_⟩
  · simp [Builtin.copy_, run_underlying Tryd.u_bytes, hlen, sizeOf, typeInfo, hi, hz1, hn, hX, hst]
  · unfold BB Blk
    rw [hc]
    have e : cur' = (bv (splice l off l2)).toArray := by
      apply Array.ext'
      rw [ht]
      simp [splice, bv_append, bv_take, bv_drop]
    rw [e]
  · have hgr := setCells_grown w g off (bv l2)
    exact Apart.of_grown hgr (fun k hk => .inl (by cases hk; simp))
  · have : ∀ (vs : List Value) (o : Nat) (W : World), (W.setCells g o vs).heap.size = W.heap.size := by
      intro vs
      induction vs with
      | nil => intro o W; rfl
      | cons v r ih => intro o W; rw [World.setCells, ih]; simp
    exact this _ _ _

theorem wp_copyB {o : Oper} {a : Act} {K : Act → World → Prop} {Q : Exit → Act → World → Prop} (s x : Operand) (tx : TypeId)
    (ho : o.op = .call { callee := .builtin .copy, args := #[s, x], argTypes := #[30, tx] }) (g off dLen dCap : Nat) (T : TypeId) (X : Value) (m : Nat) (l l2 : List UInt8) (n : Nat)
    (hs : a.eval s = .slice (some ⟨g, off, none⟩) dLen dCap) (hx : a.eval x = X) (hg : BB w g T l) (hlen : ∀ W : World, (Builtin.lenOf X).run Tryd.prog W = .ok m W)
    (hn : Nat.min m dLen = n) (hX : (Builtin.firstCells 1 n X).run Tryd.prog w = .ok (bv l2).toArray w) (hl2 : l2.length = n) (hfit : off + n ≤ l.length)
    (h : ∀ w', BB w' g T (splice l off l2) → Apart [g] w w' → w'.heap.size = w.heap.size → K (a.put o.dst (.int .i64 n)) w') : o.wp Tryd.prog a w K Q := by
  obtain ⟨w', hr, h1, h2, h3⟩ := run_copyB tx o.type g off dLen dCap T X m l l2 n hg hlen hn hX hl2 hfit
  unfold Oper.wp execOp
  simp only [ho, resolve, invoke, builtin, Sem.run_bind, Sem.run_pure, Result.andThen_ok, List.map_toArray, List.map_cons, List.map_nil, hs, hx, hr]
  exact h w' h1 h2 h3
theorem wpl_copyB {o : Oper} {a : Act} {ops : Array Oper} {rest : List Oper} {Q : Exit → Act → World → Prop} (hgd : o.guard = none) (s x : Operand) (tx : TypeId)
    (ho : o.op = .call { callee := .builtin .copy, args := #[s, x], argTypes := #[30, tx] }) (g off dLen dCap : Nat) (T : TypeId) (X : Value) (m : Nat) (l l2 : List UInt8) (n : Nat)
    (hs : a.eval s = .slice (some ⟨g, off, none⟩) dLen dCap) (hx : a.eval x = X) (hg : BB w g T l) (hlen : ∀ W : World, (Builtin.lenOf X).run Tryd.prog W = .ok m W)
    (hn : Nat.min m dLen = n) (hX : (Builtin.firstCells 1 n X).run Tryd.prog w = .ok (bv l2).toArray w) (hl2 : l2.length = n) (hfit : off + n ≤ l.length)
    (h : ∀ w', BB w' g T (splice l off l2) → Apart [g] w w' → w'.heap.size = w.heap.size → wpList Tryd.prog ops Q rest (a.put o.dst (.int .i64 n)) w') : wpList Tryd.prog ops Q (o :: rest) a w :=
  wpList_plain hgd fun _ hK => wp_copyB s x tx ho g off dLen dCap T X m l l2 n hs hx hg hlen hn hX hl2 hfit fun w' h1 h2 h3 => hK _ _ (h w' h1 h2 h3)
theorem st_copyB {o : Oper} {a : Act} {ops : Array Oper} {K : Act → World → Prop} {Q : Exit → Act → World → Prop} {E : Prop} (hgd : o.guard = none) (s x : Operand) (tx : TypeId)
    (ho : o.op = .call { callee := .builtin .copy, args := #[s, x], argTypes := #[30, tx] }) (g off dLen dCap : Nat) (T : TypeId) (X : Value) (m : Nat) (l l2 : List UInt8) (n : Nat)
    (hs : a.eval s = .slice (some ⟨g, off, none⟩) dLen dCap) (hx : a.eval x = X) (hg : BB w g T l) (hlen : ∀ W : World, (Builtin.lenOf X).run Tryd.prog W = .ok m W)
    (hn : Nat.min m dLen = n) (hX : (Builtin.firstCells 1 n X).run Tryd.prog w = .ok (bv l2).toArray w) (hl2 : l2.length = n) (hfit : off + n ≤ l.length)
    (h : ∀ w', BB w' g T (splice l off l2) → Apart [g] w w' → w'.heap.size = w.heap.size → K (a.put o.dst (.int .i64 n)) w') : if Region.wanted o (yielded ops a.tmps) = true then o.wp Tryd.prog a w K Q else E := by
  have hw : Region.wanted o (yielded ops a.tmps) = true := by simp [Region.wanted, hgd]
  rw [if_pos hw]
  exact wp_copyB s x tx ho g off dLen dCap T X m l l2 n hs hx hg hlen hn hX hl2 hfit h

theorem lenOf_slice (A : Option Addr) (n c : Nat) (W : World) : (Builtin.lenOf (.slice A n c)).run Tryd.prog W = .ok n W := rfl
theorem lenOf_string (s : ByteArray) (W : World) : (Builtin.lenOf (.string s)).run Tryd.prog W = .ok s.size W := rfl
theorem first_string (s : ByteArray) (W : World) : (Builtin.firstCells 1 s.size (.string s)).run Tryd.prog W = .ok (bv s.data.toList).toArray W := firstCells_string s W
theorem first_slice {B m : Nat} {A : Option Addr} {l : List UInt8} (h : RB w B A m l) (c : Nat) {n : Nat} (hn : n ≤ m) : (Builtin.firstCells 1 n (.slice A m c)).run Tryd.prog w = .ok (bv (l.take n)).toArray w := by
  have ht := h.take hn
  cases n with
  | zero =>
    cases A with
    | none => simp [Builtin.firstCells, bv]
    | some ad => simp [Builtin.firstCells, bv, loadCells, loadCellsFrom]
  | succ n =>
    obtain ⟨ad, rfl, _, hc⟩ := ht.2 (by omega)
    exact run_firstCells_some w 1 (n + 1) ad m c _ ht.1 hc
end
end Go.Proofs.YtkpcepdalegmmaaDoor
