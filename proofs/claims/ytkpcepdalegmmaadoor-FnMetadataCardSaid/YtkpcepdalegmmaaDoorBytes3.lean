/- Bytes: an append in a region that draws its order; small words for worlds. -/
import Derived.Test.YtkpcepdalegmmaaDoorBytes2
import Derived.Deep.RegionHeld3
import Derived.Deep.RegionWith
namespace Go.Proofs.YtkpcepdalegmmaaDoor
open Go.RowKit

section
variable {w : World} {o : Oper} {a : Act}
theorem st_appB {ops : Array Oper} {K : Act → World → Prop} {Q : Exit → Act → World → Prop} {E : Prop} (hgd : o.guard = none) (s x : Operand) (tx : TypeId)
    (ho : o.op = .call { callee := .builtin .append, args := #[s, x], argTypes := #[30, tx] })
    (base : Nat) (A : Option Addr) (n c : Nat) (l : List UInt8) (hs : a.eval s = .slice A n c) (hown : OB w base A n c l) (X : Value) (m : Nat) (l2 : List UInt8) (hx : a.eval x = X) (hsrc : Src Tryd.prog 1 tx X m (bv l2) w)
    (k : Nat) (hk : n + m = k) (hsz : k ≤ 70368744177664) (hbase : base ≤ w.heap.size)
    (h : ∀ A' c' w', OB w' base A' k c' (l ++ l2) → w.grownBy w' (A.map (·.block)) → (A' = A ∨ A' = some ⟨w.heap.size, 0, none⟩) → K (a.put o.dst (.slice A' k c')) w') :
    if Region.wanted o (yielded ops a.tmps) = true then o.wp Tryd.prog a w K Q else E := by
  have hw : Region.wanted o (yielded ops a.tmps) = true := by simp [Region.wanted, hgd]
  rw [if_pos hw]
  exact wp_appB s x tx ho base A n c l hs hown X m l2 hx hsrc k hk hsz hbase h
end

/-- A guard: the step at the operation that writes slot d. -/
theorem st_at {P : Program} (d : Tmp) {op : Op} {ty : TypeId} {pos : String} {after : Array Edge} {gd : Option (Nat × Bool)} {ops : Array Oper} {a : Act} {w : World} {K : Act → World → Prop} {Q : Exit → Act → World → Prop} {E : Prop}
    (h : if Region.wanted ⟨some d, op, ty, pos, after, gd⟩ (yielded ops a.tmps) = true then Oper.wp P ⟨some d, op, ty, pos, after, gd⟩ a w K Q else E) :
    if Region.wanted ⟨some d, op, ty, pos, after, gd⟩ (yielded ops a.tmps) = true then Oper.wp P ⟨some d, op, ty, pos, after, gd⟩ a w K Q else E := h

theorem below_new {w w' : World} {o : Obj} (h : Below (w.alloc o).heap.size (w.alloc o) w') : Below w.heap.size w w' :=
  ((Below.refl _ w).alloc (Nat.le_refl _) o).trans (h.mono (by simp))
theorem RB.new {w : World} {A : Option Addr} {n : Nat} {l : List UInt8} (h : RB w w.heap.size A n l) (o : Obj) : RB (w.alloc o) (w.alloc o).heap.size A n l := (h.alloc (Nat.le_refl _) o).more (by simp)
/-- Behind a call that leaves what was there: read below the new heap's size. -/
theorem RB.after {w w' : World} {A : Option Addr} {n : Nat} {l : List UInt8} (h : RB w w.heap.size A n l) (hb : Below w.heap.size w w') : RB w' w'.heap.size A n l := (h.below hb).more hb.size
theorem below_seq {B : Nat} {a b c : World} (h : Below B a b) (k : Below b.heap.size b c) (hB : B ≤ b.heap.size) : Below B a c := h.trans (k.mono hB)
theorem Blk.cell0 {w : World} {g : Nat} {t : TypeId} {v : Value} (h : Blk w g t #[v]) : w.cell? ⟨g, 0, none⟩ = some v := h.cell 0
theorem Blk.after {w w' : World} {g : Nat} {t : TypeId} {cs : Array Value} {B : Nat} (h : Blk w g t cs) (hb : Below B w w') (hB : w.heap.size ≤ B) : Blk w' g t cs := h.below hb (Nat.lt_of_lt_of_le h.lt hB)
theorem Blk.farN {w : World} {g : Nat} {t : TypeId} {cs : Array Value} (h : Blk w g t cs) {b o : Nat} (hp : g ≠ b) (u : Value) : Blk (w.setCell ⟨b, o, none⟩ u) g t cs := h.far (p := ⟨b, o, none⟩) hp u
theorem Blk.setN {w : World} {g : Nat} {t : TypeId} {v : Value} (h : Blk w g t #[v]) (u : Value) : Blk (w.setCell ⟨g, 0, none⟩ u) g t #[u] := h.set_ 0 u
theorem below_setN {B : Nat} {a w : World} (h : Below B a w) {b o : Nat} (hp : B ≤ b) (u : Value) : Below B a (w.setCell ⟨b, o, none⟩ u) := h.setCell (p := ⟨b, o, none⟩) hp u
theorem OB.setN {w : World} {base n c : Nat} {A : Option Addr} {l : List UInt8} (h : OB w base A n c l) {b o : Nat} (hp : b < base) (u : Value) : OB (w.setCell ⟨b, o, none⟩ u) base A n c l := ownsRow_setCell_below h (a := ⟨b, o, none⟩) hp u
end Go.Proofs.YtkpcepdalegmmaaDoor
