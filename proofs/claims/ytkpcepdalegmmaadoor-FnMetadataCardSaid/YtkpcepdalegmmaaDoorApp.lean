/- append onto a row of the call's own, of whatever element type; frames. -/
import Derived.Test.YtkpcepdalegmmaaDoorBytes3
namespace Go.Proofs.YtkpcepdalegmmaaDoor
open Go.RowKit

structure Elem (t e : TypeId) (size bytes : Nat) : Prop where
  u : Tryd.prog.underlying t = some (.slice e)
  i : ∃ z, (Tryd.prog.info? e).map (fun i => (i.zero, i.size, i.bytes)) = some (some z, size, bytes) ∧ z.cells.size = size
  s : 0 < size

section
variable {w : World} {o : Oper} {a : Act} {t e : TypeId} {size bytes : Nat}

theorem run_appT (he : Elem t e size bytes) (base : Nat) (tx ty : TypeId) (A : Option Addr) (n c : Nat) (xs : List Value) (hown : w.ownsRow base e size (.slice A n c) n xs) (X : Value) (m : Nat) (news : List Value) (hsrc : Src Tryd.prog size tx X m news w)
    (hsz : n + m ≤ 1099511627776) (hby : bytes ≤ 64) (hbase : base ≤ w.heap.size) :
    ∃ A' c' w', (Builtin.append_ #[t, tx] ty #[.slice A n c, X]).run Tryd.prog w = .ok (.slice A' (n + m) c') w' ∧ w'.ownsRow base e size (.slice A' (n + m) c') (n + m) (xs ++ news) ∧
      w.grownBy w' (A.map (·.block)) ∧ (A' = A ∨ A' = some ⟨w.heap.size, 0, none⟩) := by
  obtain ⟨z, hi, hz⟩ := he.i
  obtain ⟨i, hi, hz0, hz1, hz2⟩ := info_parts hi
  have hb : (n + m) * bytes ≤ 140737488355328 := Nat.le_trans (Nat.mul_le_mul hsz hby) (by decide)
  exact run_append_osrc (P := Tryd.prog) w base t tx ty e i z size bytes he.u hi hz0 hz1 hz2 hz he.s A n c xs hown X m news hsrc (by simp only [maxLen]; omega) hb hbase

theorem wp_appT {K : Act → World → Prop} {Q : Exit → Act → World → Prop} (he : Elem t e size bytes) (s x : Operand) (tx : TypeId)
    (ho : o.op = .call { callee := .builtin .append, args := #[s, x], argTypes := #[t, tx] })
    (base : Nat) (A : Option Addr) (n c : Nat) (xs : List Value) (hs : a.eval s = .slice A n c) (hown : w.ownsRow base e size (.slice A n c) n xs) (X : Value) (m : Nat) (news : List Value) (hx : a.eval x = X) (hsrc : Src Tryd.prog size tx X m news w)
    (k : Nat) (hk : n + m = k) (hsz : k ≤ 1099511627776) (hby : bytes ≤ 64) (hbase : base ≤ w.heap.size)
    (h : ∀ A' c' w', w'.ownsRow base e size (.slice A' k c') k (xs ++ news) → w.grownBy w' (A.map (·.block)) → (A' = A ∨ A' = some ⟨w.heap.size, 0, none⟩) → K (a.put o.dst (.slice A' k c')) w') : o.wp Tryd.prog a w K Q := by
  subst hk
  obtain ⟨A', c', w', hr, h2, h3, h4⟩ := run_appT he base tx o.type A n c xs hown X m news hsrc hsz hby hbase
  unfold Oper.wp execOp
  simp only [ho, resolve, invoke, builtin, Sem.run_bind, Sem.run_pure, Result.andThen_ok, List.map_toArray, List.map_cons, List.map_nil, hs, hx, hr]
  exact h A' c' w' h2 h3 h4

theorem wpl_appT {ops : Array Oper} {rest : List Oper} {Q : Exit → Act → World → Prop} (hgd : o.guard = none) (he : Elem t e size bytes) (s x : Operand) (tx : TypeId)
    (ho : o.op = .call { callee := .builtin .append, args := #[s, x], argTypes := #[t, tx] })
    (base : Nat) (A : Option Addr) (n c : Nat) (xs : List Value) (hs : a.eval s = .slice A n c) (hown : w.ownsRow base e size (.slice A n c) n xs) (X : Value) (m : Nat) (news : List Value) (hx : a.eval x = X) (hsrc : Src Tryd.prog size tx X m news w)
    (k : Nat) (hk : n + m = k) (hsz : k ≤ 1099511627776) (hby : bytes ≤ 64) (hbase : base ≤ w.heap.size)
    (h : ∀ A' c' w', w'.ownsRow base e size (.slice A' k c') k (xs ++ news) → w.grownBy w' (A.map (·.block)) → (A' = A ∨ A' = some ⟨w.heap.size, 0, none⟩) → wpList Tryd.prog ops Q rest (a.put o.dst (.slice A' k c')) w') : wpList Tryd.prog ops Q (o :: rest) a w :=
  wpList_plain hgd fun _ hK => wp_appT he s x tx ho base A n c xs hs hown X m news hx hsrc k hk hsz hby hbase fun A' c' w' h2 h3 h4 => hK _ _ (h A' c' w' h2 h3 h4)

theorem st_appT {ops : Array Oper} {K : Act → World → Prop} {Q : Exit → Act → World → Prop} {E : Prop} (hgd : o.guard = none) (he : Elem t e size bytes) (s x : Operand) (tx : TypeId)
    (ho : o.op = .call { callee := .builtin .append, args := #[s, x], argTypes := #[t, tx] })
    (base : Nat) (A : Option Addr) (n c : Nat) (xs : List Value) (hs : a.eval s = .slice A n c) (hown : w.ownsRow base e size (.slice A n c) n xs) (X : Value) (m : Nat) (news : List Value) (hx : a.eval x = X) (hsrc : Src Tryd.prog size tx X m news w)
    (k : Nat) (hk : n + m = k) (hsz : k ≤ 1099511627776) (hby : bytes ≤ 64) (hbase : base ≤ w.heap.size)
    (h : ∀ A' c' w', w'.ownsRow base e size (.slice A' k c') k (xs ++ news) → w.grownBy w' (A.map (·.block)) → (A' = A ∨ A' = some ⟨w.heap.size, 0, none⟩) → K (a.put o.dst (.slice A' k c')) w') :
    if Region.wanted o (yielded ops a.tmps) = true then o.wp Tryd.prog a w K Q else E := by
  have hw : Region.wanted o (yielded ops a.tmps) = true := by simp [Region.wanted, hgd]
  rw [if_pos hw]
  exact wp_appT he s x tx ho base A n c xs hs hown X m news hx hsrc k hk hsz hby hbase h
end

/-- A row of one element, laid by a literal. -/
theorem srcNew {t e : TypeId} {size bytes : Nat} (he : Elem t e size bytes) {w : World} (cs : Array Value) (hs : cs.size = size) (h1 : ∀ u ∈ cs.toList, u.oneCell' = true) :
    Src Tryd.prog size t (.slice (some ⟨w.heap.size, 0, none⟩) 1 1) 1 cs.toList (w.alloc (.cells cs e)) :=
  Src.ofSlice _ he.u ⟨w.heap.size, 0, none⟩ 1 1 cs.toList (by simp [hs]) (fun j u hu => by
    have hb := Blk.new w e cs
    have e1 : ((⟨w.heap.size, 0, none⟩ : Addr).add j) = ⟨w.heap.size, j, none⟩ := by
      unfold Addr.add
      by_cases h0 : j = 0
      · subst h0; rfl
      · simp [h0]
    rw [e1, hb.cell j, ← hu]
    simp) h1

/-- A frame, with where its body lies. -/
structure Fr where
  cmd : Bool
  more : Bool
  A : Option Addr
  n : Nat
  c : Nat
  body : List UInt8
def Fr.cells (f : Fr) : List Value := [.bool f.cmd, .bool f.more, .slice f.A f.n f.c]
def cellsOf (fs : List Fr) : List Value := fs.flatMap Fr.cells
/-- Each body reads. -/
def Bodies (w : World) (B : Nat) (fs : List Fr) : Prop := ∀ f ∈ fs, RB w B f.A f.n f.body ∧ f.n ≤ f.c
/-- A slice of frames that reads. -/
def FrS (w : World) (B : Nat) (A : Option Addr) (n : Nat) (fs : List Fr) : Prop := Reads w B 3 A n (cellsOf fs) ∧ Bodies w B fs

theorem cellsOf_length (fs : List Fr) : (cellsOf fs).length = fs.length * 3 := by
  induction fs with
  | nil => rfl
  | cons f r ih => simp only [cellsOf, List.flatMap_cons, List.length_append, List.length_cons] at ih ⊢; rw [ih]; simp [Fr.cells]; omega
theorem cellsOf_at (fs : List Fr) (i : Nat) (f : Fr) (h : fs[i]? = some f) : (cellsOf fs)[i * 3]? = some (.bool f.cmd) ∧ (cellsOf fs)[i * 3 + 1]? = some (.bool f.more) ∧ (cellsOf fs)[i * 3 + 2]? = some (.slice f.A f.n f.c) := by
  induction fs generalizing i with
  | nil => cases h
  | cons g r ih =>
    cases i with
    | zero =>
      simp at h
      subst h
      exact ⟨rfl, rfl, rfl⟩
    | succ i =>
      have := ih i (by simpa using h)
      have e : ∀ k, (cellsOf (g :: r))[(i + 1) * 3 + k]? = (cellsOf r)[i * 3 + k]? := fun k => by
        have e1 : (i + 1) * 3 + k = (i * 3 + k) + 3 := by omega
        rw [e1]
        rfl
      exact ⟨(e 0).trans this.1, (e 1).trans this.2.1, (e 2).trans this.2.2⟩
theorem cellsOf_snoc (fs : List Fr) (f : Fr) : cellsOf fs ++ f.cells = cellsOf (fs ++ [f]) := by simp [cellsOf]
theorem FrS.len {w : World} {B n : Nat} {A : Option Addr} {fs : List Fr} (h : FrS w B A n fs) : fs.length = n := by
  have := h.1.1
  rw [cellsOf_length] at this
  omega
theorem add_off (ad : Addr) (i j : Nat) (hj : 0 < j) : ad.add (i + j) = ⟨(ad.add i).block, (ad.add i).off + j, none⟩ := by
  unfold Addr.add
  by_cases hi : i = 0
  · subst hi; simp [show ¬ j = 0 by omega]
  · simp [hi, Nat.add_assoc, show ¬ j = 0 by omega]
theorem FrS.at_ {w : World} {B n : Nat} {A : Option Addr} {fs : List Fr} (h : FrS w B A n fs) {i : Nat} (hi : i < n) : ∃ ad f, A = some ad ∧ ad.block < B ∧ fs[i]? = some f ∧
    w.cell? (ad.add (i * 3)) = some (.bool f.cmd) ∧ w.cell? ⟨(ad.add (i * 3)).block, (ad.add (i * 3)).off + 1, none⟩ = some (.bool f.more) ∧ w.cell? ⟨(ad.add (i * 3)).block, (ad.add (i * 3)).off + 2, none⟩ = some (.slice f.A f.n f.c) := by
  obtain ⟨ad, e, hb, hc⟩ := h.1.2 (by omega)
  have hl := h.len
  have hf : fs[i]? = some fs[i] := List.getElem?_eq_getElem (by omega)
  obtain ⟨h1, h2, h3⟩ := cellsOf_at fs i _ hf
  exact ⟨ad, _, e, hb, hf, hc _ _ h1, (add_off ad (i * 3) 1 (by decide)) ▸ hc _ _ h2, (add_off ad (i * 3) 2 (by decide)) ▸ hc _ _ h3⟩
theorem Bodies.after {w w' : World} {fs : List Fr} (h : Bodies w w.heap.size fs) (hb : Below w.heap.size w w') : Bodies w' w'.heap.size fs := fun f hf => ⟨(h f hf).1.after hb, (h f hf).2⟩
theorem FrS.after {w w' : World} {n : Nat} {A : Option Addr} {fs : List Fr} (h : FrS w w.heap.size A n fs) (hb : Below w.heap.size w w') : FrS w' w'.heap.size A n fs := ⟨(h.1.below hb).more hb.size, h.2.after hb⟩
end Go.Proofs.YtkpcepdalegmmaaDoor
