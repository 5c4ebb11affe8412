/- Parts of a proof, laid behind one another: Bytes in memory: what a []byte reads as, what it owns; append, string(b), literals. Bytes: make([]byte, 0, n), make([]byte, n), []byte(s), at the operation. Bytes: an append in a region that draws its order; small words for worlds. Slices of a slice: s[lo:hi], s[lo:], s[:hi]. -/
import Derived.Test.YtkpcepdalegmmaaGreatDoorM01
import Derived.Laws.IdiomStrings
import Derived.Deep.RegionHeld3
import Derived.Deep.RegionWith
/-! Bytes in memory: what a []byte reads as, what it owns; append, string(b), literals. -/
namespace Go.Proofs.YtkpcepdalegmmaaGreatDoor
open Go.RowKit

/-- Bytes as cells. -/
def bv (l : List UInt8) : List Value := l.map fun b => Value.int .u8 b.toNat
@[simp] theorem bv_length (l : List UInt8) : (bv l).length = l.length := by simp [bv]
theorem bv_append (a b : List UInt8) : bv (a ++ b) = bv a ++ bv b := by simp [bv]
theorem bv_take (l : List UInt8) (n : Nat) : bv (l.take n) = (bv l).take n := by simp [bv, List.map_take]
theorem bv_drop (l : List UInt8) (n : Nat) : bv (l.drop n) = (bv l).drop n := by simp [bv, List.map_drop]
theorem bv_one {u : Value} {l : List UInt8} (h : u ∈ bv l) : u.oneCell' = true := by
  obtain ⟨b, _, rfl⟩ := List.mem_map.1 h
  rfl
theorem bv_get {l : List UInt8} {j : Nat} (h : j < l.length) : (bv l)[j]? = some (.int .u8 (l[j].toNat : Int)) := by simp [bv, h]

/-- The slice value '.slice A n _' holds the bytes l, its array lies below block B. -/
def RB (w : World) (B : Nat) (A : Option Addr) (n : Nat) (l : List UInt8) : Prop := Reads w B 1 A n (bv l)
/-- '.slice A n c' is nil or the head of a row among the blocks from 'base' on; its bytes are l. -/
def OB (w : World) (base : Nat) (A : Option Addr) (n c : Nat) (l : List UInt8) : Prop := w.ownsRow base 5 1 (.slice A n c) n (bv l)

section
variable {w w' : World} {B B' base n c : Nat} {A : Option Addr} {l : List UInt8}
theorem RB.len (h : RB w B A n l) : l.length = n := by have := h.1; simpa using this
theorem OB.len (h : OB w base A n c l) : l.length = n := by have := h.1; simpa using this
theorem OB.rb (h : OB w base A n c l) : RB w w.heap.size A n l := Reads.of_own h
theorem RB.nil_ : RB w B A 0 [] := Reads.none_
theorem RB.below (h : RB w B A n l) (hb : Below B w w') : RB w' B A n l := Reads.below h hb
theorem RB.alloc (h : RB w B A n l) (hB : B ≤ w.heap.size) (o : Obj) : RB (w.alloc o) B A n l := Reads.alloc h hB o
theorem RB.setCell (h : RB w B A n l) {p : Addr} (hB : B ≤ p.block) (u : Value) : RB (w.setCell p u) B A n l := Reads.setCell h hB u
theorem RB.drew (h : RB w B A n l) : RB w.drew B A n l := h
theorem RB.drewN (h : RB w B A n l) (k : Nat) : RB (w.drewN k) B A n l := h
theorem RB.more (h : RB w B A n l) (hB : B ≤ B') : RB w B' A n l := Reads.more h hB
theorem RB.grown (h : RB w B A n l) {row : Option Nat} (hg : w.grownBy w' row) (hB : B ≤ w.heap.size) (hr : ∀ g, row = some g → B ≤ g) : RB w' B A n l := Reads.grown h hg hB hr
theorem RB.cell (h : RB w B A n l) {k : Nat} (hk : k < n) : ∃ ad, A = some ad ∧ ad.block < B ∧ w.cell? (ad.add k) = some (.int .u8 ((l.getD k 0).toNat : Int)) := by
  obtain ⟨ad, u, e, hb, hu, hc⟩ := Reads.at_ h hk
  have hl := h.len
  rw [bv_get (by omega)] at hu
  refine ⟨ad, e, hb, ?_⟩
  rw [hc, ← hu, List.getD_eq_getElem?_getD, List.getElem?_eq_getElem (by omega)]
  rfl
theorem RB.take (h : RB w B A n l) {m : Nat} (hm : m ≤ n) : RB w B A m (l.take m) := by
  have := Reads.take h hm
  rw [Nat.mul_one, ← bv_take] at this
  exact this
theorem RB.cut (h : RB w B A n l) {k cap : Nat} (hk : k ≤ n) (hc : n ≤ cap) : RB w B (if cap = k then A else A.map (·.add k)) (n - k) (l.drop k) := by
  have := Reads.cut h hk hc
  simp only [Nat.mul_one, ← bv_drop] at this
  exact this
theorem OB.alloc (h : OB w base A n c l) (o : Obj) : OB (w.alloc o) base A n c l := World.ownsRow.alloc h o
theorem OB.drew (h : OB w base A n c l) : OB w.drew base A n c l := h
theorem OB.drewN (h : OB w base A n c l) (k : Nat) : OB (w.drewN k) base A n c l := h
theorem OB.kept {row : Option Nat} (h : OB w base A n c l) (hg : w.grownBy w' row) (hne : ∀ ad, A = some ad → some ad.block ≠ row) : OB w' base A n c l := by
  refine World.ownsRow.kept h hg ?_
  cases A with
  | none => exact .inl rfl
  | some ad => exact .inr (hne ad rfl)
theorem OB.block (h : OB w base A n c l) {ad : Addr} (hA : A = some ad) : base ≤ ad.block ∧ ad.block < w.heap.size := by
  subst hA
  exact World.ownsRow.lt h ad.block rfl
theorem OB.base_le (h : OB w base A n c l) {g : Nat} (hg : A.map (·.block) = some g) : base ≤ g := by
  cases A with
  | none => cases hg
  | some ad => simp only [Option.map_some, Option.some.injEq] at hg; rw [← hg]; exact (h.block rfl).1
theorem OB.more {b' : Nat} (h : OB w base A n c l) (hb : b' ≤ base) : OB w b' A n c l := by
  refine ⟨h.1, ?_⟩
  rcases h.2 with h2 | ⟨g, cap, cur, e, hg, r⟩
  · exact .inl h2
  · exact .inr ⟨g, cap, cur, e, by omega, r⟩
theorem OB.nil_ (w : World) (base : Nat) : OB w base none 0 0 [] := World.ownsRow_nil w base 5 1
theorem OB.cap (h : OB w base A n c l) : n ≤ c ∧ c ≤ maxLen := by
  rcases h.2 with ⟨e, rfl⟩ | ⟨g, cap, cur, e, hg, hh, h1, h2, _⟩
  · injection e with _ _ e; subst e; exact ⟨Nat.le_refl _, by unfold maxLen; omega⟩
  · injection e with _ _ e; subst e; exact ⟨h1, h2⟩
end

/-- A new literal of one byte, of none. -/
theorem OB.lit0 (w : World) (base : Nat) (hb : base ≤ w.heap.size) : OB (w.alloc (.cells #[] 5)) base (some ⟨w.heap.size, 0, none⟩) 0 0 [] :=
  World.ownsRow_made w #[] 0 hb (by unfold maxLen; omega) (by simp)
theorem OB.lit (w : World) (base : Nat) (hb : base ≤ w.heap.size) (l : List UInt8) (cs : Array Value) (hcs : cs.toList = bv l) (n : Nat) (hn : l.length = n) (hm : n ≤ maxLen) :
    OB (w.alloc (.cells cs 5)) base (some ⟨w.heap.size, 0, none⟩) n n l := by
  have hs : cs.size = n := by rw [← Array.length_toList, hcs, bv_length, hn]
  refine ⟨by simp [hn], .inr ⟨_, _, cs, rfl, hb, heap_alloc_new w _, Nat.le_refl _, hm, by simp [hs], ?_⟩⟩
  rw [hcs, List.take_of_length_le (by simp [hn])]

theorem Tryz.info_u8 : (Tryz.prog.info? 5).map (fun i => (i.zero, i.size, i.bytes)) = some (some (.int .u8 0), 1, 1) := by kernel_rfl
theorem Tryz.u_bytes : Tryz.prog.underlying 23 = some (.slice 5) := Tryz.underlying23
theorem Tryz.u_string : Tryz.prog.underlying 9 = some .string := Tryz.underlying9
theorem Tryz.u_u8 : Tryz.prog.underlying 5 = some (.int .u8) := Tryz.underlying5

/-- What is appended: a []byte, whatever its address; a string. -/
theorem srcB {w : World} {B n c : Nat} {A : Option Addr} {l : List UInt8} (h : RB w B A n l) : Src Tryz.prog 1 23 (.slice A n c) n (bv l) w := by
  cases n with
  | zero =>
    have hl : l = [] := List.eq_nil_of_length_eq_zero h.len
    subst hl
    cases A with
    | none => exact Src.ofNil w Tryz.u_bytes c
    | some ad => exact Src.ofSlice w Tryz.u_bytes ad 0 c [] rfl (fun j u hu => by simp at hu) (fun u hu => by cases hu)
  | succ n =>
    obtain ⟨ad, rfl, _, hc⟩ := h.2 (by omega)
    exact Src.ofSlice w Tryz.u_bytes ad (n + 1) c (bv l) h.1 hc (fun u hu => bv_one hu)
theorem srcS {w : World} (s : ByteArray) : Src Tryz.prog 1 9 (.string s) s.size (bv s.data.toList) w := Src.ofString w Tryz.u_string s

section
variable {w : World} {o : Oper} {a : Act}

theorem run_appB (base : Nat) (tx ty : TypeId) (A : Option Addr) (n c : Nat) (l : List UInt8) (hown : OB w base A n c l) (X : Value) (m : Nat) (l2 : List UInt8) (hsrc : Src Tryz.prog 1 tx X m (bv l2) w)
    (hsz : n + m ≤ 70368744177664) (hbase : base ≤ w.heap.size) :
    ∃ A' c' w', (Builtin.append_ #[23, tx] ty #[.slice A n c, X]).run Tryz.prog w = .ok (.slice A' (n + m) c') w' ∧ OB w' base A' (n + m) c' (l ++ l2) ∧
      w.grownBy w' (A.map (·.block)) ∧ (A' = A ∨ A' = some ⟨w.heap.size, 0, none⟩) := by
  obtain ⟨i, hi, hz0, hz1, hz2⟩ := info_parts Tryz.info_u8
  obtain ⟨A', c', w', h1, h2, h3, h4⟩ := run_append_osrc (P := Tryz.prog) w base 23 tx ty 5 i (.int .u8 0) 1 1 Tryz.u_bytes hi hz0 hz1 hz2 rfl (by decide) A n c (bv l) hown X m (bv l2) hsrc
    (by simp only [maxLen]; omega) (by omega) hbase
  rw [← bv_append] at h2
  exact ⟨A', c', w', h1, h2, h3, h4⟩

theorem wp_appB {K : Act → World → Prop} {Q : Exit → Act → World → Prop} (s x : Operand) (tx : TypeId)
    (ho : o.op = .call { callee := .builtin .append, args := #[s, x], argTypes := #[23, tx] })
    (base : Nat) (A : Option Addr) (n c : Nat) (l : List UInt8) (hs : a.eval s = .slice A n c) (hown : OB w base A n c l) (X : Value) (m : Nat) (l2 : List UInt8) (hx : a.eval x = X) (hsrc : Src Tryz.prog 1 tx X m (bv l2) w)
    (k : Nat) (hk : n + m = k) (hsz : k ≤ 70368744177664) (hbase : base ≤ w.heap.size)
    (h : ∀ A' c' w', OB w' base A' k c' (l ++ l2) → w.grownBy w' (A.map (·.block)) → (A' = A ∨ A' = some ⟨w.heap.size, 0, none⟩) → K (a.put o.dst (.slice A' k c')) w') : o.wp Tryz.prog a w K Q := by
  subst hk
  obtain ⟨A', c', w', hr, h2, h3, h4⟩ := run_appB base tx o.type A n c l hown X m l2 hsrc hsz hbase
  unfold Oper.wp execOp
  simp only [ho, resolve, invoke, builtin, Sem.run_bind, Sem.run_pure, Result.andThen_ok, List.map_toArray, List.map_cons, List.map_nil, hs, hx, hr]
  exact h A' c' w' h2 h3 h4

theorem wpl_appB {ops : Array Oper} {rest : List Oper} {Q : Exit → Act → World → Prop} (hgd : o.guard = none) (s x : Operand) (tx : TypeId)
    (ho : o.op = .call { callee := .builtin .append, args := #[s, x], argTypes := #[23, tx] })
    (base : Nat) (A : Option Addr) (n c : Nat) (l : List UInt8) (hs : a.eval s = .slice A n c) (hown : OB w base A n c l) (X : Value) (m : Nat) (l2 : List UInt8) (hx : a.eval x = X) (hsrc : Src Tryz.prog 1 tx X m (bv l2) w)
    (k : Nat) (hk : n + m = k) (hsz : k ≤ 70368744177664) (hbase : base ≤ w.heap.size)
    (h : ∀ A' c' w', OB w' base A' k c' (l ++ l2) → w.grownBy w' (A.map (·.block)) → (A' = A ∨ A' = some ⟨w.heap.size, 0, none⟩) → wpList Tryz.prog ops Q rest (a.put o.dst (.slice A' k c')) w') : wpList Tryz.prog ops Q (o :: rest) a w :=
  wpList_plain hgd fun _ hK => wp_appB s x tx ho base A n c l hs hown X m l2 hx hsrc k hk hsz hbase fun A' c' w' h2 h3 h4 => hK _ _ (h A' c' w' h2 h3 h4)

/-- 'string(b)'. -/
theorem run_strB {B n c : Nat} {A : Option Addr} {l : List UInt8} (h : RB w B A n l) : (convert 23 9 (.slice A n c)).run Tryz.prog w = .ok (.string ⟨l.toArray⟩) w := by
  have hl := h.len
  cases n with
  | zero =>
    have hn : l = [] := List.eq_nil_of_length_eq_zero hl
    subst hn
    rw [run_convert_bytes_string w 23 9 5 A 0 c Tryz.u_bytes Tryz.u_u8 Tryz.u_string]
    cases A with
    | none => simp [Conv.bytesToString]; rfl
    | some ad => simp [Conv.bytesToString, loadCells, loadCellsFrom]; rfl
  | succ n =>
    obtain ⟨ad, rfl, _, hc⟩ := h.2 (by omega)
    rw [← hl]
    exact run_convert_bytes_back w 23 9 5 ad c l Tryz.u_bytes Tryz.u_u8 Tryz.u_string (fun j hj => hc j _ (bv_get hj))
end
end Go.Proofs.YtkpcepdalegmmaaGreatDoor

/-! Bytes: make([]byte, 0, n), make([]byte, n), []byte(s), at the operation. -/
namespace Go.Proofs.YtkpcepdalegmmaaGreatDoor
open Go.RowKit

section
variable {w : World} {o : Oper} {a : Act} {ops : Array Oper} {rest : List Oper} {Q : Exit → Act → World → Prop}

theorem wpl_make0 (hgd : o.guard = none) (l c : Operand) (hop : o.op = .makeSlice 23 l c) (base : Nat) (C : Int) (n : Nat) (hl : a.eval l = .int .i64 0) (hc : a.eval c = .int .i64 C) (hC : C = (n : Int))
    (hn : n ≤ 70368744177664) (hbase : base ≤ w.heap.size)
    (h : ∀ w', OB w' base (some ⟨w.heap.size, 0, none⟩) 0 n [] → w.grownBy w' none → wpList Tryz.prog ops Q rest (a.put o.dst (.slice (some ⟨w.heap.size, 0, none⟩) 0 n)) w') : wpList Tryz.prog ops Q (o :: rest) a w := by
  obtain ⟨i, hi, hz0, hz1, hz2⟩ := info_parts Tryz.info_u8
  exact wpList_make_own w hgd l c 23 hop base 5 i _ 1 Tryz.u_bytes hi hz0 hz1 .i64 .i64 C n hl hc hC (by rw [hz2]; omega) (by simp only [maxLen]; omega) hbase fun w' h1 h2 => h w' h1 h2

theorem bytesRow_toList (s : ByteArray) (cap : Nat) : (bytesRow s cap).toList = bv s.data.toList ++ List.replicate (cap - s.size) (.int .u8 0) := by
  simp [bytesRow, bv]

/-- '[]byte(s)': the new array, its mark behind it. -/
theorem wpl_ofStr (hgd : o.guard = none) (x : Operand) (hop : o.op = .convert 9 23 x) (s : ByteArray) (hx : a.eval x = .string s)
    (h : ∀ c w', RB w' w'.heap.size (some ⟨w.heap.size, 0, none⟩) s.size s.data.toList → w.grownBy w' none → w.heap.size < w'.heap.size → s.size ≤ c →
      wpList Tryz.prog ops Q rest (a.put o.dst (.slice (some ⟨w.heap.size, 0, none⟩) s.size c)) w') : wpList Tryz.prog ops Q (o :: rest) a w := by
  refine wpList_plain hgd fun K hK => ?_
  have hr := run_bytes_of_string (P := Tryz.prog) w 9 23 5 s Tryz.u_string Tryz.u_bytes Tryz.u_u8
  unfold Oper.wp execOp
  simp only [hop, hx, Sem.run_bind, hr, Result.andThen_ok, Sem.run_pure]
  refine hK _ _ (h _ _ ⟨by simp, fun hn => ⟨_, rfl, by simp, fun j u hu => ?_⟩⟩ (grownBy_alloc (grownBy_drew (grownBy_refl w none)) _) (by simp) (grownCap_ge w s.size 0 5))
  have hj : j < s.data.size := by
    have := (List.getElem?_eq_some_iff.1 hu).1
    simpa using this
  have hb := bytesRow_at s (grownCap w s.size 0 5) j hj
  rw [bv_get (by simpa using hj)] at hu
  have hc := World.cell?_alloc_mark w.drew (bytesRow s (grownCap w s.size 0 5)) 5 ((bytesRow s (grownCap w s.size 0 5)).size, (bytesRow s (grownCap w s.size 0 5)).size + 1) j
  rw [← hu]
  have e : (⟨w.heap.size, 0, none⟩ : Addr).add j = ⟨w.heap.size, j, none⟩ := by rw [Addr.add_lit]; simp
  rw [e]
  refine hc.trans (hb.trans ?_)
  simp
end
end Go.Proofs.YtkpcepdalegmmaaGreatDoor

/-! Bytes: an append in a region that draws its order; small words for worlds. -/
namespace Go.Proofs.YtkpcepdalegmmaaGreatDoor
open Go.RowKit

section
variable {w : World} {o : Oper} {a : Act}
theorem st_appB {ops : Array Oper} {K : Act → World → Prop} {Q : Exit → Act → World → Prop} {E : Prop} (hgd : o.guard = none) (s x : Operand) (tx : TypeId)
    (ho : o.op = .call { callee := .builtin .append, args := #[s, x], argTypes := #[23, tx] })
    (base : Nat) (A : Option Addr) (n c : Nat) (l : List UInt8) (hs : a.eval s = .slice A n c) (hown : OB w base A n c l) (X : Value) (m : Nat) (l2 : List UInt8) (hx : a.eval x = X) (hsrc : Src Tryz.prog 1 tx X m (bv l2) w)
    (k : Nat) (hk : n + m = k) (hsz : k ≤ 70368744177664) (hbase : base ≤ w.heap.size)
    (h : ∀ A' c' w', OB w' base A' k c' (l ++ l2) → w.grownBy w' (A.map (·.block)) → (A' = A ∨ A' = some ⟨w.heap.size, 0, none⟩) → K (a.put o.dst (.slice A' k c')) w') :
    if Region.wanted o (yielded ops a.tmps) = true then o.wp Tryz.prog a w K Q else E := by
  have hw : Region.wanted o (yielded ops a.tmps) = true := by simp [Region.wanted, hgd]
  rw [if_pos hw]
  exact wp_appB s x tx ho base A n c l hs hown X m l2 hx hsrc k hk hsz hbase h
end

/-- A guard: the step at the operation that writes slot d. -/
theorem st_at {P : Program} (d : Tmp) {op : Op} {ty : TypeId} {pos : String} {after : Array Edge} {gd : Option (Nat × Bool)} {ops : Array Oper} {a : Act} {w : World} {K : Act → World → Prop} {Q : Exit → Act → World → Prop} {E : Prop}
    (h : if Region.wanted ⟨some d, op, ty, pos, after, gd⟩ (yielded ops a.tmps) = true then Oper.wp P ⟨some d, op, ty, pos, after, gd⟩ a w K Q else E) :
    if Region.wanted ⟨some d, op, ty, pos, after, gd⟩ (yielded ops a.tmps) = true then Oper.wp P ⟨some d, op, ty, pos, after, gd⟩ a w K Q else E := h

theorem below_new {w w' : World} {o : Obj} (h : Below (w.alloc o).heap.size (w.alloc o) w') : Below w.heap.size w w' :=
  ((Below.refl _ w).alloc (Nat.le_refl _) o).trans (h.mono (by simp))
theorem RB.new {w : World} {A : Option Addr} {n : Nat} {l : List UInt8} (h : RB w w.heap.size A n l) (o : Obj) : RB (w.alloc o) (w.alloc o).heap.size A n l := (h.alloc (Nat.le_refl _) o).more (by simp)
/-- Behind a call that leaves what was there: read below the new heap's size. -/
theorem RB.after {w w' : World} {A : Option Addr} {n : Nat} {l : List UInt8} (h : RB w w.heap.size A n l) (hb : Below w.heap.size w w') : RB w' w'.heap.size A n l := (h.below hb).more hb.size
theorem below_seq {B : Nat} {a b c : World} (h : Below B a b) (k : Below b.heap.size b c) (hB : B ≤ b.heap.size) : Below B a c := h.trans (k.mono hB)
theorem Blk.cell0 {w : World} {g : Nat} {t : TypeId} {v : Value} (h : Blk w g t #[v]) : w.cell? ⟨g, 0, none⟩ = some v := h.cell 0
theorem Blk.after {w w' : World} {g : Nat} {t : TypeId} {cs : Array Value} {B : Nat} (h : Blk w g t cs) (hb : Below B w w') (hB : w.heap.size ≤ B) : Blk w' g t cs := h.below hb (Nat.lt_of_lt_of_le h.lt hB)
theorem Blk.farN {w : World} {g : Nat} {t : TypeId} {cs : Array Value} (h : Blk w g t cs) {b o : Nat} (hp : g ≠ b) (u : Value) : Blk (w.setCell ⟨b, o, none⟩ u) g t cs := h.far (p := ⟨b, o, none⟩) hp u
theorem Blk.setN {w : World} {g : Nat} {t : TypeId} {v : Value} (h : Blk w g t #[v]) (u : Value) : Blk (w.setCell ⟨g, 0, none⟩ u) g t #[u] := h.set_ 0 u
theorem below_setN {B : Nat} {a w : World} (h : Below B a w) {b o : Nat} (hp : B ≤ b) (u : Value) : Below B a (w.setCell ⟨b, o, none⟩ u) := h.setCell (p := ⟨b, o, none⟩) hp u
theorem OB.setN {w : World} {base n c : Nat} {A : Option Addr} {l : List UInt8} (h : OB w base A n c l) {b o : Nat} (hp : b < base) (u : Value) : OB (w.setCell ⟨b, o, none⟩ u) base A n c l := ownsRow_setCell_below h (a := ⟨b, o, none⟩) hp u
end Go.Proofs.YtkpcepdalegmmaaGreatDoor

/-! Slices of a slice: s[lo:hi], s[lo:], s[:hi]. -/
namespace Go.Proofs.YtkpcepdalegmmaaGreatDoor
open Go.RowKit

/-- Where 's[k:]' begins. -/
def cutA (A : Option Addr) (c k : Nat) : Option Addr := if c = k then A else A.map (·.add k)

theorem RB.cutA_ {w : World} {B n c lo hi : Nat} {A : Option Addr} {l : List UInt8} (h : RB w B A n l) (h1 : lo ≤ hi) (h2 : hi ≤ n) (hc : n ≤ c) : RB w B (cutA A c lo) (hi - lo) ((l.drop lo).take (hi - lo)) :=
  (h.cut (k := lo) (cap := c) (by omega) hc).take (by omega)
theorem RB.cutEnd {w : World} {B n c lo : Nat} {A : Option Addr} {l : List UInt8} (h : RB w B A n l) (h1 : lo ≤ n) (hc : n ≤ c) : RB w B (cutA A c lo) (n - lo) (l.drop lo) :=
  h.cut (k := lo) (cap := c) h1 hc

section
variable (A : Option Addr) (n c : Nat) (w : World)
theorem run_slice_lh (lo hi : Nat) (h1 : lo ≤ hi) (h2 : hi ≤ c) :
    (Instr.slice 23 (.slice A n c) (some (.int .i64 lo)) (some (.int .i64 hi)) none).run Tryz.prog w = .ok (.slice (cutA A c lo) (hi - lo) (c - lo)) w := by
  obtain ⟨i, hi0, _, hz1, _⟩ := info_parts Tryz.info_u8
  simp [Instr.slice, run_underlying Tryz.u_bytes, Instr.sliceBounds, Instr.sliceBound, asIntOf, sizeOf, typeInfo, hi0, hz1, h1, h2, cutA]
theorem run_slice_lo (lo : Nat) (h1 : lo ≤ n) :
    (Instr.slice 23 (.slice A n c) (some (.int .i64 lo)) none none).run Tryz.prog w = .ok (.slice (cutA A c lo) (n - lo) (c - lo)) w := by
  obtain ⟨i, hi0, _, hz1, _⟩ := info_parts Tryz.info_u8
  simp [Instr.slice, run_underlying Tryz.u_bytes, Instr.sliceBounds, Instr.sliceBound, asIntOf, sizeOf, typeInfo, hi0, hz1, h1, cutA]
theorem run_slice_hi (hi : Nat) (h2 : hi ≤ c) :
    (Instr.slice 23 (.slice A n c) none (some (.int .i64 hi)) none).run Tryz.prog w = .ok (.slice A hi c) w := by
  obtain ⟨i, hi0, _, _, _⟩ := info_parts Tryz.info_u8
  simp [Instr.slice, run_underlying Tryz.u_bytes, Instr.sliceBounds, Instr.sliceBound, asIntOf, sizeOf, typeInfo, hi0, h2, Addr.add]
end
end Go.Proofs.YtkpcepdalegmmaaGreatDoor
