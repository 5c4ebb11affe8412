/- Bytes in memory: what a []byte reads as, what it owns; append, string(b), literals. -/
import Derived.Test.YtkpcepdalegmmaaDoorWords
import Derived.Laws.IdiomStrings
namespace Go.Proofs.YtkpcepdalegmmaaDoor
open Go.RowKit

/-- Bytes as cells. -/
def bv (l : List UInt8) : List Value := l.map fun b => Value.int .u8 b.toNat
@[simp] theorem bv_length (l : List UInt8) : (bv l).length = l.length := by simp [bv]
theorem bv_append (a b : List UInt8) : bv (a ++ b) = bv a ++ bv b := by simp [bv]
theorem bv_take (l : List UInt8) (n : Nat) : bv (l.take n) = (bv l).take n := by simp [bv, List.map_take]
theorem bv_drop (l : List UInt8) (n : Nat) : bv (l.drop n) = (bv l).drop n := by simp [bv, List.map_drop]
theorem bv_one {u : Value} {l : List UInt8} (h : u ∈ bv l) : u.oneCell' = true := by
  obtain ⟨b, _, rfl⟩ := List.mem_map.1 h
  rfl
theorem bv_get {l : List UInt8} {j : Nat} (h : j < l.length) : (bv l)[j]? = some (.int .u8 (l[j].toNat : Int)) := by simp [bv, h]

/-- The slice value '.slice A n _' holds the bytes l, its array lies below block B. -/
def RB (w : World) (B : Nat) (A : Option Addr) (n : Nat) (l : List UInt8) : Prop := Reads w B 1 A n (bv l)
/-- '.slice A n c' is nil or the head of a row among the blocks from 'base' on; its bytes are l. -/
def OB (w : World) (base : Nat) (A : Option Addr) (n c : Nat) (l : List UInt8) : Prop := w.ownsRow base 5 1 (.slice A n c) n (bv l)

section
variable {w w' : World} {B B' base n c : Nat} {A : Option Addr} {l : List UInt8}
theorem RB.len (h : RB w B A n l) : l.length = n := by have := h.1; simpa using this
theorem OB.len (h : OB w base A n c l) : l.length = n := by have := h.1; simpa using this
theorem OB.rb (h : OB w base A n c l) : RB w w.heap.size A n l := Reads.of_own h
theorem RB.nil_ : RB w B A 0 [] := Reads.none_
theorem RB.below (h : RB w B A n l) (hb : Below B w w') : RB w' B A n l := Reads.below h hb
theorem RB.alloc (h : RB w B A n l) (hB : B ≤ w.heap.size) (o : Obj) : RB (w.alloc o) B A n l := Reads.alloc h hB o
theorem RB.setCell (h : RB w B A n l) {p : Addr} (hB : B ≤ p.block) (u : Value) : RB (w.setCell p u) B A n l := Reads.setCell h hB u
theorem RB.drew (h : RB w B A n l) : RB w.drew B A n l := h
theorem RB.drewN (h : RB w B A n l) (k : Nat) : RB (w.drewN k) B A n l := h
theorem RB.more (h : RB w B A n l) (hB : B ≤ B') : RB w B' A n l := Reads.more h hB
theorem RB.grown (h : RB w B A n l) {row : Option Nat} (hg : w.grownBy w' row) (hB : B ≤ w.heap.size) (hr : ∀ g, row = some g → B ≤ g) : RB w' B A n l := Reads.grown h hg hB hr
theorem RB.cell (h : RB w B A n l) {k : Nat} (hk : k < n) : ∃ ad, A = some ad ∧ ad.block < B ∧ w.cell? (ad.add k) = some (.int .u8 ((l.getD k 0).toNat : Int)) := by
  obtain ⟨ad, u, e, hb, hu, hc⟩ := Reads.at_ h hk
  have hl := h.len
  rw [bv_get (by omega)] at hu
  refine ⟨ad, e, hb, ?_⟩
  rw [hc, ← hu, List.getD_eq_getElem?_getD, List.getElem?_eq_getElem (by omega)]
  rfl
theorem RB.take (h : RB w B A n l) {m : Nat} (hm : m ≤ n) : RB w B A m (l.take m) := by
  have := Reads.take h hm
  rw [Nat.mul_one, ← bv_take] at this
  exact this
theorem RB.cut (h : RB w B A n l) {k cap : Nat} (hk : k ≤ n) (hc : n ≤ cap) : RB w B (if cap = k then A else A.map (·.add k)) (n - k) (l.drop k) := by
  have := Reads.cut h hk hc
  simp only [Nat.mul_one, ← bv_drop] at this
  exact this
theorem OB.alloc (h : OB w base A n c l) (o : Obj) : OB (w.alloc o) base A n c l := World.ownsRow.alloc h o
theorem OB.drew (h : OB w base A n c l) : OB w.drew base A n c l := h
theorem OB.drewN (h : OB w base A n c l) (k : Nat) : OB (w.drewN k) base A n c l := h
theorem OB.kept {row : Option Nat} (h : OB w base A n c l) (hg : w.grownBy w' row) (hne : ∀ ad, A = some ad → some ad.block ≠ row) : OB w' base A n c l := by
  refine World.ownsRow.kept h hg ?_
  cases A with
  | none => exact .inl rfl
  | some ad => exact .inr (hne ad rfl)
theorem OB.block (h : OB w base A n c l) {ad : Addr} (hA : A = some ad) : base ≤ ad.block ∧ ad.block < w.heap.size := by
  subst hA
  exact World.ownsRow.lt h ad.block rfl
theorem OB.base_le (h : OB w base A n c l) {g : Nat} (hg : A.map (·.block) = some g) : base ≤ g := by
  cases A with
  | none => cases hg
  | some ad => simp only [Option.map_some, Option.some.injEq] at hg; rw [← hg]; exact (h.block rfl).1
theorem OB.more {b' : Nat} (h : OB w base A n c l) (hb : b' ≤ base) : OB w b' A n c l := by
  refine ⟨h.1, ?_⟩
  rcases h.2 with h2 | ⟨g, cap, cur, e, hg, r⟩
  · exact .inl h2
  · exact .inr ⟨g, cap, cur, e, by omega, r⟩
theorem OB.nil_ (w : World) (base : Nat) : OB w base none 0 0 [] := World.ownsRow_nil w base 5 1
theorem OB.cap (h : OB w base A n c l) : n ≤ c ∧ c ≤ maxLen := by
  rcases h.2 with ⟨e, rfl⟩ | ⟨g, cap, cur, e, hg, hh, h1, h2, _⟩
  · injection e with _ _ e; subst e; exact ⟨Nat.le_refl _, by unfold maxLen; omega⟩
  · injection e with _ _ e; subst e; exact ⟨h1, h2⟩
end

/-- A new literal of one byte, of none. -/
theorem OB.lit0 (w : World) (base : Nat) (hb : base ≤ w.heap.size) : OB (w.alloc (.cells #[] 5)) base (some ⟨w.heap.size, 0, none⟩) 0 0 [] :=
  World.ownsRow_made w #[] 0 hb (by unfold maxLen; omega) (by simp)
theorem OB.lit (w : World) (base : Nat) (hb : base ≤ w.heap.size) (l : List UInt8) (cs : Array Value) (hcs : cs.toList = bv l) (n : Nat) (hn : l.length = n) (hm : n ≤ maxLen) :
    OB (w.alloc (.cells cs 5)) base (some ⟨w.heap.size, 0, none⟩) n n l := by
  have hs : cs.size = n := by rw [← Array.length_toList, hcs, bv_length, hn]
  refine ⟨by simp [hn], .inr ⟨_, _, cs, rfl, hb, heap_alloc_new w _, Nat.le_refl _, hm, by simp [hs], ?_⟩⟩
  rw [hcs, List.take_of_length_le (by simp [hn])]

theorem Tryd.info_u8 : (Tryd.prog.info? 5).map (fun i => (i.zero, i.size, i.bytes)) = some (some (.int .u8 0), 1, 1) := by kernel_rfl
theorem Tryd.u_bytes : Tryd.prog.underlying 30 = some (.slice 5) := Tryd.underlying30
theorem Tryd.u_string : Tryd.prog.underlying 9 = some .string := Tryd.underlying9
theorem Tryd.u_u8 : Tryd.prog.underlying 5 = some (.int .u8) := Tryd.underlying5

/-- What is appended: a []byte, whatever its address; a string. -/
theorem srcB {w : World} {B n c : Nat} {A : Option Addr} {l : List UInt8} (h : RB w B A n l) : Src Tryd.prog 1 30 (.slice A n c) n (bv l) w := by
  cases n with
  | zero =>
    have hl : l = [] := List.eq_nil_of_length_eq_zero h.len
    subst hl
    cases A with
    | none => exact Src.ofNil w Tryd.u_bytes c
    | some ad => exact Src.ofSlice w Tryd.u_bytes ad 0 c [] rfl (fun j u hu => by simp at hu) (fun u hu => by cases hu)
  | succ n =>
    obtain ⟨ad, rfl, _, hc⟩ := h.2 (by omega)
    exact Src.ofSlice w Tryd.u_bytes ad (n + 1) c (bv l) h.1 hc (fun u hu => bv_one hu)
theorem srcS {w : World} (s : ByteArray) : Src Tryd.prog 1 9 (.string s) s.size (bv s.data.toList) w := Src.ofString w Tryd.u_string s

section
variable {w : World} {o : Oper} {a : Act}

theorem run_appB (base : Nat) (tx ty : TypeId) (A : Option Addr) (n c : Nat) (l : List UInt8) (hown : OB w base A n c l) (X : Value) (m : Nat) (l2 : List UInt8) (hsrc : Src Tryd.prog 1 tx X m (bv l2) w)
    (hsz : n + m ≤ 70368744177664) (hbase : base ≤ w.heap.size) :
    ∃ A' c' w', (Builtin.append_ #[30, tx] ty #[.slice A n c, X]).run Tryd.prog w = .ok (.slice A' (n + m) c') w' ∧ OB w' base A' (n + m) c' (l ++ l2) ∧
      w.grownBy w' (A.map (·.block)) ∧ (A' = A ∨ A' = some ⟨w.heap.size, 0, none⟩) := by
  obtain ⟨i, hi, hz0, hz1, hz2⟩ := info_parts Tryd.info_u8
  obtain ⟨A', c', w', h1, h2, h3, h4⟩ := run_append_osrc (P := Tryd.prog) w base 30 tx ty 5 i (.int .u8 0) 1 1 Tryd.u_bytes hi hz0 hz1 hz2 rfl (by decide) A n c (bv l) hown X m (bv l2) hsrc
    (by simp only [maxLen]; omega) (by omega) hbase
  rw [← bv_append] at h2
  exact ⟨A', c', w', h1, h2, h3, h4⟩

theorem wp_appB {K : Act → World → Prop} {Q : Exit → Act → World → Prop} (s x : Operand) (tx : TypeId)
    (ho : o.op = .call { callee := .builtin .append, args := #[s, x], argTypes := #[30, tx] })
    (base : Nat) (A : Option Addr) (n c : Nat) (l : List UInt8) (hs : a.eval s = .slice A n c) (hown : OB w base A n c l) (X : Value) (m : Nat) (l2 : List UInt8) (hx : a.eval x = X) (hsrc : Src Tryd.prog 1 tx X m (bv l2) w)
    (k : Nat) (hk : n + m = k) (hsz : k ≤ 70368744177664) (hbase : base ≤ w.heap.size)
    (h : ∀ A' c' w', OB w' base A' k c' (l ++ l2) → w.grownBy w' (A.map (·.block)) → (A' = A ∨ A' = some ⟨w.heap.size, 0, none⟩) → K (a.put o.dst (.slice A' k c')) w') : o.wp Tryd.prog a w K Q := by
  subst hk
  obtain ⟨A', c', w', hr, h2, h3, h4⟩ := run_appB base tx o.type A n c l hown X m l2 hsrc hsz hbase
  unfold Oper.wp execOp
  simp only [ho, resolve, invoke, builtin, Sem.run_bind, Sem.run_pure, Result.andThen_ok, List.map_toArray, List.map_cons, List.map_nil, hs, hx, hr]
  exact h A' c' w' h2 h3 h4

theorem wpl_appB {ops : Array Oper} {rest : List Oper} {Q : Exit → Act → World → Prop} (hgd : o.guard = none) (s x : Operand) (tx : TypeId)
    (ho : o.op = .call { callee := .builtin .append, args := #[s, x], argTypes := #[30, tx] })
    (base : Nat) (A : Option Addr) (n c : Nat) (l : List UInt8) (hs : a.eval s = .slice A n c) (hown : OB w base A n c l) (X : Value) (m : Nat) (l2 : List UInt8) (hx : a.eval x = X) (hsrc : Src Tryd.prog 1 tx X m (bv l2) w)
    (k : Nat) (hk : n + m = k) (hsz : k ≤ 70368744177664) (hbase : base ≤ w.heap.size)
    (h : ∀ A' c' w', OB w' base A' k c' (l ++ l2) → w.grownBy w' (A.map (·.block)) → (A' = A ∨ A' = some ⟨w.heap.size, 0, none⟩) → wpList Tryd.prog ops Q rest (a.put o.dst (.slice A' k c')) w') : wpList Tryd.prog ops Q (o :: rest) a w :=
  wpList_plain hgd fun _ hK => wp_appB s x tx ho base A n c l hs hown X m l2 hx hsrc k hk hsz hbase fun A' c' w' h2 h3 h4 => hK _ _ (h A' c' w' h2 h3 h4)

/-- 'string(b)'. -/
theorem run_strB {B n c : Nat} {A : Option Addr} {l : List UInt8} (h : RB w B A n l) : (convert 30 9 (.slice A n c)).run Tryd.prog w = .ok (.string ⟨l.toArray⟩) w := by
  have hl := h.len
  cases n with
  | zero =>
    have hn : l = [] := List.eq_nil_of_length_eq_zero hl
    subst hn
    rw [run_convert_bytes_string w 30 9 5 A 0 c Tryd.u_bytes Tryd.u_u8 Tryd.u_string]
    cases A with
    | none => simp [Conv.bytesToString]; rfl
    | some ad => simp [Conv.bytesToString, loadCells, loadCellsFrom]; rfl
  | succ n =>
    obtain ⟨ad, rfl, _, hc⟩ := h.2 (by omega)
    rw [← hl]
    exact run_convert_bytes_back w 30 9 5 ad c l Tryd.u_bytes Tryd.u_u8 Tryd.u_string (fun j hj => hc j _ (bv_get hj))
end
end Go.Proofs.YtkpcepdalegmmaaDoor
