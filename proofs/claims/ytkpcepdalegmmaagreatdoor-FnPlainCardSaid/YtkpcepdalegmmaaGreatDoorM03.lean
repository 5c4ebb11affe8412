/- Parts of a proof, laid behind one another: 'Apart ps w w'': of what was there only the blocks ps may have turned. Arrays and structs of bytes as blocks; a variable made, stored and loaded whole; copy. The contracts of 'quietly' and of its deferred closure: whether the function that it is handed returns or panics, it comes back and says which. -/
import Derived.Test.YtkpcepdalegmmaaGreatDoorM02
import Derived.Deep.MidRow
import Derived.Deep.WholeRow
import Derived.Test.YtkpcepdalegmmaaGreatDoorRows
import Derived.WalkKit
import Derived.Defers
import Derived.Recover
/-! 'Apart ps w w'': of what was there only the blocks ps may have turned. -/
namespace Go.Proofs.YtkpcepdalegmmaaGreatDoor
open Go.RowKit

structure Apart (ps : List Nat) (w w' : World) : Prop where
  os : w'.os = w.os
  tape : w'.tape = w.tape
  output : w'.output = w.output
  size : w.heap.size ≤ w'.heap.size
  block : ∀ k, k < w.heap.size → k ∉ ps → w'.heap[k]? = w.heap[k]?

section
variable {ps qs : List Nat} {a b c w w' : World}
theorem Apart.refl (ps : List Nat) (w : World) : Apart ps w w := ⟨rfl, rfl, rfl, Nat.le_refl _, fun _ _ _ => rfl⟩
theorem Apart.trans (h : Apart ps a b) (k : Apart ps b c) : Apart ps a c :=
  ⟨k.os.trans h.os, k.tape.trans h.tape, k.output.trans h.output, Nat.le_trans h.size k.size, fun i hi hn => (k.block i (Nat.lt_of_lt_of_le hi h.size) hn).trans (h.block i hi hn)⟩
theorem Apart.mono (h : Apart ps a b) (hs : ∀ k, k < a.heap.size → k ∈ ps → k ∈ qs) : Apart qs a b := ⟨h.os, h.tape, h.output, h.size, fun i hi hn => h.block i hi fun hm => hn (hs i hi hm)⟩
theorem Apart.drew (h : Apart ps a w) : Apart ps a w.drew := ⟨h.os, h.tape, h.output, h.size, h.block⟩
theorem Apart.drewN (h : Apart ps a w) (n : Nat) : Apart ps a (w.drewN n) := ⟨h.os, h.tape, h.output, h.size, h.block⟩
theorem Apart.alloc (h : Apart ps a w) (o : Obj) : Apart ps a (w.alloc o) :=
  ⟨h.os, h.tape, h.output, Nat.le_trans h.size (by simp), fun i hi hn => (Below.heap_alloc w o i (Nat.lt_of_lt_of_le hi h.size)).trans (h.block i hi hn)⟩
theorem Apart.setN (h : Apart ps a w) {g o : Nat} (hg : g ∈ ps ∨ a.heap.size ≤ g) (u : Value) : Apart ps a (w.setCell ⟨g, o, none⟩ u) :=
  ⟨h.os, h.tape, h.output, by simpa [World.setCell] using h.size, fun i hi hn => (Below.heap_setCell w ⟨g, o, none⟩ u i (by
    rintro rfl
    rcases hg with hg | hg
    · exact hn hg
    · exact absurd hi (Nat.not_lt.2 hg))).trans (h.block i hi hn)⟩
theorem Apart.of_below (h : Below a.heap.size a b) : Apart ps a b := ⟨h.os, h.tape, h.output, h.size, fun i hi _ => h.block i hi⟩
theorem Apart.of_grown {row : Option Nat} (h : a.grownBy b row) (hr : ∀ g, row = some g → g ∈ ps ∨ a.heap.size ≤ g) : Apart ps a b :=
  ⟨h.os, h.tape, h.output, h.size, fun i hi hn => h.block i hi fun e => by
    rcases hr i e.symm with h1 | h1
    · exact hn h1
    · omega⟩
theorem Apart.below (h : Apart ps a b) {B : Nat} (hB : B ≤ a.heap.size) (hp : ∀ k ∈ ps, B ≤ k) : Below B a b :=
  ⟨h.os, h.tape, h.output, h.size, fun k hk => h.block k (by omega) fun hm => by have := hp k hm; omega⟩
theorem Apart.then_below (h : Apart ps a b) (k : Below b.heap.size b c) : Apart ps a c := h.trans (Apart.of_below k)
theorem Apart.blk (h : Apart ps a b) {g : Nat} {t : TypeId} {cs : Array Value} (hg : Blk a g t cs) (hn : g ∉ ps) : Blk b g t cs := (h.block g hg.lt hn).trans hg
theorem Apart.cell (h : Apart ps a b) {p : Addr} (hp : p.block < a.heap.size) (hn : p.block ∉ ps) : b.cell? p = a.cell? p := World.cell?_of_block (h.block p.block hp hn)
theorem Apart.frozen (h : Apart ps a b) {p : Addr} (hp : p.block < a.heap.size) (hn : p.block ∉ ps) : b.frozen? p = a.frozen? p := World.frozen?_of_block (h.block p.block hp hn)
/-- A reading, none of the turned blocks its own. -/
theorem Apart.reads (h : Apart ps a b) {B size n : Nat} {A : Option Addr} {xs : List Value} (hr : Reads a B size A n xs) (hB : B ≤ a.heap.size) (hn : ∀ ad, A = some ad → ad.block ∉ ps) : Reads b B size A n xs :=
  ⟨hr.1, fun h0 => by
    obtain ⟨ad, e, hb, hc⟩ := hr.2 h0
    exact ⟨ad, e, hb, fun j u hu => (h.cell (by rw [block_of_add]; omega) (by rw [block_of_add]; exact hn ad e)).trans (hc j u hu)⟩⟩
theorem Apart.rb (h : Apart ps a b) {B n : Nat} {A : Option Addr} {l : List UInt8} (hr : RB a B A n l) (hB : B ≤ a.heap.size) (hn : ∀ ad, A = some ad → ad.block ∉ ps) : RB b B A n l := h.reads hr hB hn
theorem Apart.own (h : Apart ps a b) {base e size n : Nat} {v : Value} {xs : List Value} (ho : a.ownsRow base e size v n xs) (hn : ∀ g, v.ownBlock = some g → g ∉ ps) : b.ownsRow base e size v n xs := by
  refine ⟨ho.1, ?_⟩
  rcases ho.2 with h2 | ⟨g, cap, cur, hv, hg, hh, r⟩
  · exact .inl h2
  · exact .inr ⟨g, cap, cur, hv, hg, (h.block g (Array.getElem?_eq_some_iff.1 hh).1 (hn g (by rw [hv]; rfl))).trans hh, r⟩
theorem Apart.ob (h : Apart ps a b) {base n c : Nat} {A : Option Addr} {l : List UInt8} (ho : OB a base A n c l) (hn : ∀ ad, A = some ad → ad.block ∉ ps) : OB b base A n c l :=
  h.own ho fun g hg => by
    cases A with
    | none => cases hg
    | some ad => simp only [Value.ownBlock, Option.some.injEq] at hg; rw [← hg]; exact hn ad rfl
end
end Go.Proofs.YtkpcepdalegmmaaGreatDoor

/-! Arrays and structs of bytes as blocks; a variable made, stored and loaded whole; copy. -/
namespace Go.Proofs.YtkpcepdalegmmaaGreatDoor
open Go.RowKit

/-- Block g holds just the bytes l (an array, a struct of bytes). -/
def BB (w : World) (g : Nat) (t : TypeId) (l : List UInt8) : Prop := Blk w g t (bv l).toArray
/-- l with x laid over it from place o on. -/
def splice (l : List UInt8) (o : Nat) (x : List UInt8) : List UInt8 := l.take o ++ x ++ l.drop (o + x.length)
theorem splice_length {l : List UInt8} {o : Nat} {x : List UInt8} (h : o + x.length ≤ l.length) : (splice l o x).length = l.length := by simp [splice]; omega

section
variable {w w' : World} {g : Nat} {t : TypeId} {l : List UInt8}
theorem BB.lt (h : BB w g t l) : g < w.heap.size := Blk.lt h
theorem BB.cell (h : BB w g t l) {i : Nat} (hi : i < l.length) : w.cell? ⟨g, i, none⟩ = some (.int .u8 ((l.getD i 0).toNat : Int)) := by
  rw [Blk.cell h i, List.getElem?_toArray, bv_get hi, List.getD_eq_getElem?_getD, List.getElem?_eq_getElem hi]; rfl
theorem BB.frozen (h : BB w g t l) (i : Nat) : w.frozen? ⟨g, i, none⟩ = false := Blk.frozen h i
theorem BB.set (h : BB w g t l) (i : Nat) (b : UInt8) : BB (w.setCell ⟨g, i, none⟩ (.int .u8 (b.toNat : Int))) g t (l.set i b) := by
  have := Blk.set_ h i (.int .u8 (b.toNat : Int))
  unfold BB
  have e : (bv (l.set i b)).toArray = (bv l).toArray.setIfInBounds i (.int .u8 (b.toNat : Int)) := by
    simp [bv, List.map_set]
  rw [e]
  exact this
theorem BB.apart {ps : List Nat} (h : BB w g t l) (ha : Apart ps w w') (hn : g ∉ ps) : BB w' g t l := ha.blk h hn
theorem BB.below {B : Nat} (h : BB w g t l) (hb : Below B w w') (hg : g < B) : BB w' g t l := Blk.below h hb hg
theorem BB.after {B : Nat} (h : BB w g t l) (hb : Below B w w') (hB : w.heap.size ≤ B) : BB w' g t l := Blk.after h hb hB
theorem BB.alloc (h : BB w g t l) (o : Obj) : BB (w.alloc o) g t l := Blk.alloc h o
theorem BB.drew (h : BB w g t l) : BB w.drew g t l := h
theorem BB.farN (h : BB w g t l) {b o : Nat} (hp : g ≠ b) (u : Value) : BB (w.setCell ⟨b, o, none⟩ u) g t l := Blk.farN h hp u
/-- A slice of the block. -/
theorem BB.rb (h : BB w g t l) {o n : Nat} (hn : o + n ≤ l.length) : RB w w.heap.size (some ⟨g, o, none⟩) n ((l.drop o).take n) := by
  refine ⟨by simp; omega, fun _ => ⟨_, rfl, h.lt, fun j u hu => ?_⟩⟩
  have hj : j < n := by
    have := (List.getElem?_eq_some_iff.1 hu).1
    simp at this
    omega
  rw [Addr.add_lit, BB.cell h (by omega)]
  rw [bv_get (by simp; omega)] at hu
  rw [← hu, List.getElem_take, List.getElem_drop, List.getD_eq_getElem?_getD, List.getElem?_eq_getElem (by omega)]
  rfl
theorem BB.mk (w : World) (t : TypeId) (l : List UInt8) : BB (w.alloc (.cells (bv l).toArray t)) w.heap.size t l := Blk.new w t _
end

section
variable {w : World} {o : Oper} {a : Act} {ops : Array Oper} {rest : List Oper} {Q : Exit → Act → World → Prop}

/-- 'var x T': T an array or a struct of bytes. -/
theorem wpl_allocB (hgd : o.guard = none) (T : TypeId) (ho : o.op = .alloc T) (l : List UInt8) (n : Nat) (hi : (Tryz.prog.info? T).map (fun i => (i.zero, i.size)) = some (some (.agg (bv l).toArray), n))
    (h : ∀ w', BB w' w.heap.size T l → Below w.heap.size w w' → w'.heap.size = w.heap.size + 1 → wpList Tryz.prog ops Q rest (a.put o.dst (.pointer (some ⟨w.heap.size, 0, none⟩))) w') : wpList Tryz.prog ops Q (o :: rest) a w := by
  refine wpList_plain hgd fun K hK => ?_
  have hz := (zero_of_info hi).1
  unfold Oper.wp execOp
  simp only [ho, Instr.alloc, Sem.run_bind, hz, Result.andThen_ok, newVar, newRow, newObj, Value.cells, Sem.run_pure]
  exact hK _ _ (h _ (BB.mk w T l) ((Below.refl _ w).alloc (Nat.le_refl _) _) (by simp))

/-- 'x = v', x and v whole arrays or structs. -/
theorem wpl_storeB (hgd : o.guard = none) (T : TypeId) (x y : Operand) (ho : o.op = .store T x y) (g : Nat) (l l' : List UInt8) (hx : a.eval x = .pointer (some ⟨g, 0, none⟩)) (hy : a.eval y = .agg (bv l').toArray) (hg : BB w g T l)
    (hl : l'.length = l.length) (hi : (Tryz.prog.info? T).map (·.size) = some l.length)
    (h : ∀ w', BB w' g T l' → Apart [g] w w' → w'.heap.size = w.heap.size → wpList Tryz.prog ops Q rest (a.put o.dst undef) w') : wpList Tryz.prog ops Q (o :: rest) a w := by
  refine wpList_plain hgd fun K hK => ?_
  have hr := run_storeVar_row (P := Tryz.prog) w g T T (bv l).toArray (bv l').toArray hg (by simpa [hl] using hi) (by simp [hl]) (all_oneCell_toArray fun v hv => bv_one hv)
  unfold Oper.wp execOp
  simp only [ho, Instr.storeAt, Instr.sureAddr, hx, hy, Sem.run_bind, Sem.run_pure, Result.andThen_ok, hr]
  refine hK _ _ (h _ (setRow_heap w g _ _ T _ hg) ⟨rfl, rfl, rfl, by simp, fun k _ hk => setRow_other w g k _ (fun e => hk (by simp [e]))⟩ (by simp))
end

section
variable {w : World}
/-- copy: n bytes of the source over a part of block g. -/
theorem run_copyB (tx ty : TypeId) (g off dLen dCap : Nat) (T : TypeId) (X : Value) (m : Nat) (l l2 : List UInt8) (n : Nat) (hg : BB w g T l) (hlen : ∀ W : World, (Builtin.lenOf X).run Tryz.prog W = .ok m W)
    (hn : Nat.min m dLen = n) (hX : (Builtin.firstCells 1 n X).run Tryz.prog w = .ok (bv l2).toArray w) (hl2 : l2.length = n) (hfit : off + n ≤ l.length) :
    ∃ w', (Builtin.copy_ #[23, tx] ty #[.slice (some ⟨g, off, none⟩) dLen dCap, X]).run Tryz.prog w = .ok (goInt n) w' ∧ BB w' g T (splice l off l2) ∧ Apart [g] w w' ∧ w'.heap.size = w.heap.size := by
  obtain ⟨i, hi, _, hz1, _⟩ := info_parts Tryz.info_u8
  have hst := run_storeCells_cells (P := Tryz.prog) g off (bv l2) 0 w (fun j hj => by rw [Nat.add_zero, BB.cell hg (by simp at hj; omega)]; rfl) (fun j _ => BB.frozen hg _) (fun u hu => bv_one hu)
  rw [Nat.add_zero] at hst
  obtain ⟨cur', hc, ht⟩ := setCells_blk w g (bv l).toArray T hg (bv l2) off (by simp; omega)
  refine ⟨w.setCells g off (bv l2), ?_, ?_, ?_, ?_⟩
  · simp [Builtin.copy_, run_underlying Tryz.u_bytes, hlen, sizeOf, typeInfo, hi, hz1, hn, hX, hst]
  · unfold BB Blk
    rw [hc]
    have e : cur' = (bv (splice l off l2)).toArray := by
      apply Array.ext'
      rw [ht]
      simp [splice, bv_append, bv_take, bv_drop]
    rw [e]
  · have hgr := setCells_grown w g off (bv l2)
    exact Apart.of_grown hgr (fun k hk => .inl (by cases hk; simp))
  · have : ∀ (vs : List Value) (o : Nat) (W : World), (W.setCells g o vs).heap.size = W.heap.size := by
      intro vs
      induction vs with
      | nil => intro o W; rfl
      | cons v r ih => intro o W; rw [World.setCells, ih]; simp
    exact this _ _ _

theorem wp_copyB {o : Oper} {a : Act} {K : Act → World → Prop} {Q : Exit → Act → World → Prop} (s x : Operand) (tx : TypeId)
    (ho : o.op = .call { callee := .builtin .copy, args := #[s, x], argTypes := #[23, tx] }) (g off dLen dCap : Nat) (T : TypeId) (X : Value) (m : Nat) (l l2 : List UInt8) (n : Nat)
    (hs : a.eval s = .slice (some ⟨g, off, none⟩) dLen dCap) (hx : a.eval x = X) (hg : BB w g T l) (hlen : ∀ W : World, (Builtin.lenOf X).run Tryz.prog W = .ok m W)
    (hn : Nat.min m dLen = n) (hX : (Builtin.firstCells 1 n X).run Tryz.prog w = .ok (bv l2).toArray w) (hl2 : l2.length = n) (hfit : off + n ≤ l.length)
    (h : ∀ w', BB w' g T (splice l off l2) → Apart [g] w w' → w'.heap.size = w.heap.size → K (a.put o.dst (.int .i64 n)) w') : o.wp Tryz.prog a w K Q := by
  obtain ⟨w', hr, h1, h2, h3⟩ := run_copyB tx o.type g off dLen dCap T X m l l2 n hg hlen hn hX hl2 hfit
  unfold Oper.wp execOp
  simp only [ho, resolve, invoke, builtin, Sem.run_bind, Sem.run_pure, Result.andThen_ok, List.map_toArray, List.map_cons, List.map_nil, hs, hx, hr]
  exact h w' h1 h2 h3
theorem wpl_copyB {o : Oper} {a : Act} {ops : Array Oper} {rest : List Oper} {Q : Exit → Act → World → Prop} (hgd : o.guard = none) (s x : Operand) (tx : TypeId)
    (ho : o.op = .call { callee := .builtin .copy, args := #[s, x], argTypes := #[23, tx] }) (g off dLen dCap : Nat) (T : TypeId) (X : Value) (m : Nat) (l l2 : List UInt8) (n : Nat)
    (hs : a.eval s = .slice (some ⟨g, off, none⟩) dLen dCap) (hx : a.eval x = X) (hg : BB w g T l) (hlen : ∀ W : World, (Builtin.lenOf X).run Tryz.prog W = .ok m W)
    (hn : Nat.min m dLen = n) (hX : (Builtin.firstCells 1 n X).run Tryz.prog w = .ok (bv l2).toArray w) (hl2 : l2.length = n) (hfit : off + n ≤ l.length)
    (h : ∀ w', BB w' g T (splice l off l2) → Apart [g] w w' → w'.heap.size = w.heap.size → wpList Tryz.prog ops Q rest (a.put o.dst (.int .i64 n)) w') : wpList Tryz.prog ops Q (o :: rest) a w :=
  wpList_plain hgd fun _ hK => wp_copyB s x tx ho g off dLen dCap T X m l l2 n hs hx hg hlen hn hX hl2 hfit fun w' h1 h2 h3 => hK _ _ (h w' h1 h2 h3)
theorem st_copyB {o : Oper} {a : Act} {ops : Array Oper} {K : Act → World → Prop} {Q : Exit → Act → World → Prop} {E : Prop} (hgd : o.guard = none) (s x : Operand) (tx : TypeId)
    (ho : o.op = .call { callee := .builtin .copy, args := #[s, x], argTypes := #[23, tx] }) (g off dLen dCap : Nat) (T : TypeId) (X : Value) (m : Nat) (l l2 : List UInt8) (n : Nat)
    (hs : a.eval s = .slice (some ⟨g, off, none⟩) dLen dCap) (hx : a.eval x = X) (hg : BB w g T l) (hlen : ∀ W : World, (Builtin.lenOf X).run Tryz.prog W = .ok m W)
    (hn : Nat.min m dLen = n) (hX : (Builtin.firstCells 1 n X).run Tryz.prog w = .ok (bv l2).toArray w) (hl2 : l2.length = n) (hfit : off + n ≤ l.length)
    (h : ∀ w', BB w' g T (splice l off l2) → Apart [g] w w' → w'.heap.size = w.heap.size → K (a.put o.dst (.int .i64 n)) w') : if Region.wanted o (yielded ops a.tmps) = true then o.wp Tryz.prog a w K Q else E := by
  have hw : Region.wanted o (yielded ops a.tmps) = true := by simp [Region.wanted, hgd]
  rw [if_pos hw]
  exact wp_copyB s x tx ho g off dLen dCap T X m l l2 n hs hx hg hlen hn hX hl2 hfit h

theorem lenOf_slice (A : Option Addr) (n c : Nat) (W : World) : (Builtin.lenOf (.slice A n c)).run Tryz.prog W = .ok n W := rfl
theorem lenOf_string (s : ByteArray) (W : World) : (Builtin.lenOf (.string s)).run Tryz.prog W = .ok s.size W := rfl
theorem first_string (s : ByteArray) (W : World) : (Builtin.firstCells 1 s.size (.string s)).run Tryz.prog W = .ok (bv s.data.toList).toArray W := firstCells_string s W
theorem first_slice {B m : Nat} {A : Option Addr} {l : List UInt8} (h : RB w B A m l) (c : Nat) {n : Nat} (hn : n ≤ m) : (Builtin.firstCells 1 n (.slice A m c)).run Tryz.prog w = .ok (bv (l.take n)).toArray w := by
  have ht := h.take hn
  cases n with
  | zero =>
    cases A with
    | none => simp [Builtin.firstCells, bv]
    | some ad => simp [Builtin.firstCells, bv, loadCells, loadCellsFrom]
  | succ n =>
    obtain ⟨ad, rfl, _, hc⟩ := ht.2 (by omega)
    exact run_firstCells_some w 1 (n + 1) ad m c _ ht.1 hc
end
end Go.Proofs.YtkpcepdalegmmaaGreatDoor

/-! The contracts of 'quietly' and of its deferred closure: whether the function that it is handed returns or panics, it comes back and says which. -/
namespace Go.Proofs.YtkpcepdalegmmaaGreatDoor
open Go.RowKit

theorem quiet_catch (p : Addr) (x : Value) (u : TypeId) (pv : Value) (older : List PanicEntry) (w : World) (hc : w.cell? p = some x) (hz : w.frozen? p = false) :
    CallsD Tryz.prog 18 #[.pointer (some p)] (.panicking ({ v := .iface u pv, recovered := false } :: older)) w fun e u' w' =>
      e = .returned (.tuple #[]) ∧ u' = .panicking ({ v := .iface u pv, recovered := true } :: older) ∧ w' = w.setCell p (.bool false) := by
  refine callsD_of_wpS Tryz.func18 rfl fun c₀ cs hu => ?_
  apply wpS_seq
  apply wpS_region
  simp [wpOpsS, go_sem, recoverD, hu, Tryz.ntmps18, Exit.thenS]
  refine wpS_cond (t := true) (by simp [Act.eval, Array.replicate]) ?_
  simp only [if_true]
  apply wpS_region
  simp [wpOpsS, go_sem, hc, hz, bodyPostS, results, Tryz.results18]

theorem quiet_idle (p : Addr) (w : World) :
    CallsD Tryz.prog 18 #[.pointer (some p)] .returning w fun e u' w' => e = .returned (.tuple #[]) ∧ u' = .returning ∧ w' = w := by
  refine callsD_of_wpS Tryz.func18 rfl fun c₀ cs hu => ?_
  apply wpS_seq
  apply wpS_region
  simp [wpOpsS, go_sem, recoverD, hu, Tryz.ntmps18, Exit.thenS]
  refine wpS_cond (t := false) (by simp [Act.eval, Array.replicate]) ?_
  simp only [Bool.false_eq_true, if_false]
  refine wpS_of_wp (wp_skip ?_)
  cases c₀
  simp_all [bodyPostS, results, Tryz.results18]

/-- What a function handed to 'quietly' may do: it returns (true), or it panics with a value (false); 'ok' is the variable that 'quietly' has laid. -/
def Quietly (ok : Addr) (Q : Bool → World → Prop) (e : Ending) (w : World) : Prop :=
  w.cell? ok = some (.bool false) ∧ w.frozen? ok = false ∧ ((e = .returned (.tuple #[]) ∧ Q true w) ∨ (∃ u pv, e = .panicked [{ v := .iface u pv, recovered := false }] ∧ Q false w))

theorem quietly_any (f : FuncId) (caps : Array Value) (w : World) (Q : Bool → World → Prop)
    (hin : ∀ W : World, (callFunc f caps).run Tryz.prog W = .ok (.enter f caps) W)
    (h : Calls Tryz.prog f caps (w.alloc (.cells #[.bool false] 4)) (Quietly ⟨w.heap.size, 0, none⟩ Q)) :
    Calls Tryz.prog 8 #[.func (.func f) #[] caps] w fun e w' => ∃ b w1, e = .returned (.bool b) ∧ Q b w1 ∧ w' = w1.setCell ⟨w.heap.size, 0, none⟩ (.bool b) := by
  have hmf : ∀ (fn : Fn) (first cap : Array Value) (w : World), (Instr.makeFunc fn first cap).run Tryz.prog w = .ok (.func fn first cap) w := fun _ _ _ _ => rfl
  go_enter_defers Tryz.func8, Tryz.ntmps8
  go_wp2_with fail
  refine h.mono ?_
  clear h
  rintro e w1 ⟨hc, hz, (⟨rfl, hq⟩ | ⟨u, pv, rfl, hq⟩)⟩
  · go_wp2_with fail
    refine leaves_cons (f := 18) (args := #[.pointer (some ⟨w.heap.size, 0, none⟩)]) (by simp) (by simp [go_sem]) ?_
    refine (quiet_idle ⟨w.heap.size, 0, none⟩ _).mono ?_
    rintro e u' w'' ⟨rfl, rfl, rfl⟩
    have hc' := World.cell?_setCell_same w1 _ (.bool true) hc
    exact ⟨_, (by simp [results, Tryz.results8, go_sem, hc']), true, w1, rfl, hq, rfl⟩
  · simp only []
    refine leaves_cons (f := 18) (args := #[.pointer (some ⟨w.heap.size, 0, none⟩)]) (by simp) (by simp [go_sem]) ?_
    refine (quiet_catch ⟨w.heap.size, 0, none⟩ _ _ _ [] _ hc hz).mono ?_
    rintro e u' w'' ⟨rfl, rfl, rfl⟩
    have hc' := World.cell?_setCell_same w1 _ (.bool false) hc
    exact ⟨_, (by simp [results, Tryz.results8, go_sem, hc']), false, w1, rfl, hq, rfl⟩
end Go.Proofs.YtkpcepdalegmmaaGreatDoor
