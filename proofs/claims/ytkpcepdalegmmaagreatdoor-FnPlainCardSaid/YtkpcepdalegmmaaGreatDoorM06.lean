/- Parts of a proof, laid behind one another: append onto a row of the call's own, of whatever element type; frames. Frames: laws.zzFits2, laws.zzFits1, laws.frames, spec.Proper. Frames: laws.frames. Frames: spec.Proper. Frames: spec.Frames. -/
import Derived.Test.YtkpcepdalegmmaaGreatDoorM02
/-! append onto a row of the call's own, of whatever element type; frames. -/
namespace Go.Proofs.YtkpcepdalegmmaaGreatDoor
open Go.RowKit

structure Elem (t e : TypeId) (size bytes : Nat) : Prop where
  u : Tryz.prog.underlying t = some (.slice e)
  i : ∃ z, (Tryz.prog.info? e).map (fun i => (i.zero, i.size, i.bytes)) = some (some z, size, bytes) ∧ z.cells.size = size
  s : 0 < size

section
variable {w : World} {o : Oper} {a : Act} {t e : TypeId} {size bytes : Nat}

theorem run_appT (he : Elem t e size bytes) (base : Nat) (tx ty : TypeId) (A : Option Addr) (n c : Nat) (xs : List Value) (hown : w.ownsRow base e size (.slice A n c) n xs) (X : Value) (m : Nat) (news : List Value) (hsrc : Src Tryz.prog size tx X m news w)
    (hsz : n + m ≤ 1099511627776) (hby : bytes ≤ 64) (hbase : base ≤ w.heap.size) :
    ∃ A' c' w', (Builtin.append_ #[t, tx] ty #[.slice A n c, X]).run Tryz.prog w = .ok (.slice A' (n + m) c') w' ∧ w'.ownsRow base e size (.slice A' (n + m) c') (n + m) (xs ++ news) ∧
      w.grownBy w' (A.map (·.block)) ∧ (A' = A ∨ A' = some ⟨w.heap.size, 0, none⟩) := by
  obtain ⟨z, hi, hz⟩ := he.i
  obtain ⟨i, hi, hz0, hz1, hz2⟩ := info_parts hi
  have hb : (n + m) * bytes ≤ 140737488355328 := Nat.le_trans (Nat.mul_le_mul hsz hby) (by decide)
  exact run_append_osrc (P := Tryz.prog) w base t tx ty e i z size bytes he.u hi hz0 hz1 hz2 hz he.s A n c xs hown X m news hsrc (by simp only [maxLen]; omega) hb hbase

theorem wp_appT {K : Act → World → Prop} {Q : Exit → Act → World → Prop} (he : Elem t e size bytes) (s x : Operand) (tx : TypeId)
    (ho : o.op = .call { callee := .builtin .append, args := #[s, x], argTypes := #[t, tx] })
    (base : Nat) (A : Option Addr) (n c : Nat) (xs : List Value) (hs : a.eval s = .slice A n c) (hown : w.ownsRow base e size (.slice A n c) n xs) (X : Value) (m : Nat) (news : List Value) (hx : a.eval x = X) (hsrc : Src Tryz.prog size tx X m news w)
    (k : Nat) (hk : n + m = k) (hsz : k ≤ 1099511627776) (hby : bytes ≤ 64) (hbase : base ≤ w.heap.size)
    (h : ∀ A' c' w', w'.ownsRow base e size (.slice A' k c') k (xs ++ news) → w.grownBy w' (A.map (·.block)) → (A' = A ∨ A' = some ⟨w.heap.size, 0, none⟩) → K (a.put o.dst (.slice A' k c')) w') : o.wp Tryz.prog a w K Q := by
  subst hk
  obtain ⟨A', c', w', hr, h2, h3, h4⟩ := run_appT he base tx o.type A n c xs hown X m news hsrc hsz hby hbase
  unfold Oper.wp execOp
  simp only [ho, resolve, invoke, builtin, Sem.run_bind, Sem.run_pure, Result.andThen_ok, List.map_toArray, List.map_cons, List.map_nil, hs, hx, hr]
  exact h A' c' w' h2 h3 h4

theorem wpl_appT {ops : Array Oper} {rest : List Oper} {Q : Exit → Act → World → Prop} (hgd : o.guard = none) (he : Elem t e size bytes) (s x : Operand) (tx : TypeId)
    (ho : o.op = .call { callee := .builtin .append, args := #[s, x], argTypes := #[t, tx] })
    (base : Nat) (A : Option Addr) (n c : Nat) (xs : List Value) (hs : a.eval s = .slice A n c) (hown : w.ownsRow base e size (.slice A n c) n xs) (X : Value) (m : Nat) (news : List Value) (hx : a.eval x = X) (hsrc : Src Tryz.prog size tx X m news w)
    (k : Nat) (hk : n + m = k) (hsz : k ≤ 1099511627776) (hby : bytes ≤ 64) (hbase : base ≤ w.heap.size)
    (h : ∀ A' c' w', w'.ownsRow base e size (.slice A' k c') k (xs ++ news) → w.grownBy w' (A.map (·.block)) → (A' = A ∨ A' = some ⟨w.heap.size, 0, none⟩) → wpList Tryz.prog ops Q rest (a.put o.dst (.slice A' k c')) w') : wpList Tryz.prog ops Q (o :: rest) a w :=
  wpList_plain hgd fun _ hK => wp_appT he s x tx ho base A n c xs hs hown X m news hx hsrc k hk hsz hby hbase fun A' c' w' h2 h3 h4 => hK _ _ (h A' c' w' h2 h3 h4)

theorem st_appT {ops : Array Oper} {K : Act → World → Prop} {Q : Exit → Act → World → Prop} {E : Prop} (hgd : o.guard = none) (he : Elem t e size bytes) (s x : Operand) (tx : TypeId)
    (ho : o.op = .call { callee := .builtin .append, args := #[s, x], argTypes := #[t, tx] })
    (base : Nat) (A : Option Addr) (n c : Nat) (xs : List Value) (hs : a.eval s = .slice A n c) (hown : w.ownsRow base e size (.slice A n c) n xs) (X : Value) (m : Nat) (news : List Value) (hx : a.eval x = X) (hsrc : Src Tryz.prog size tx X m news w)
    (k : Nat) (hk : n + m = k) (hsz : k ≤ 1099511627776) (hby : bytes ≤ 64) (hbase : base ≤ w.heap.size)
    (h : ∀ A' c' w', w'.ownsRow base e size (.slice A' k c') k (xs ++ news) → w.grownBy w' (A.map (·.block)) → (A' = A ∨ A' = some ⟨w.heap.size, 0, none⟩) → K (a.put o.dst (.slice A' k c')) w') :
    if Region.wanted o (yielded ops a.tmps) = true then o.wp Tryz.prog a w K Q else E := by
  have hw : Region.wanted o (yielded ops a.tmps) = true := by simp [Region.wanted, hgd]
  rw [if_pos hw]
  exact wp_appT he s x tx ho base A n c xs hs hown X m news hx hsrc k hk hsz hby hbase h
end

/-- A row of one element, laid by a literal. -/
theorem srcNew {t e : TypeId} {size bytes : Nat} (he : Elem t e size bytes) {w : World} (cs : Array Value) (hs : cs.size = size) (h1 : ∀ u ∈ cs.toList, u.oneCell' = true) :
    Src Tryz.prog size t (.slice (some ⟨w.heap.size, 0, none⟩) 1 1) 1 cs.toList (w.alloc (.cells cs e)) :=
  Src.ofSlice _ he.u ⟨w.heap.size, 0, none⟩ 1 1 cs.toList (by simp [hs]) (fun j u hu => by
    have hb := Blk.new w e cs
    have e1 : ((⟨w.heap.size, 0, none⟩ : Addr).add j) = ⟨w.heap.size, j, none⟩ := by
      unfold Addr.add
      by_cases h0 : j = 0
      · subst h0; rfl
      · simp [h0]
    rw [e1, hb.cell j, ← hu]
    simp) h1

/-- A frame, with where its body lies. -/
structure Fr where
  cmd : Bool
  more : Bool
  A : Option Addr
  n : Nat
  c : Nat
  body : List UInt8
def Fr.cells (f : Fr) : List Value := [.bool f.cmd, .bool f.more, .slice f.A f.n f.c]
def cellsOf (fs : List Fr) : List Value := fs.flatMap Fr.cells
/-- Each body reads. -/
def Bodies (w : World) (B : Nat) (fs : List Fr) : Prop := ∀ f ∈ fs, RB w B f.A f.n f.body ∧ f.n ≤ f.c
/-- A slice of frames that reads. -/
def FrS (w : World) (B : Nat) (A : Option Addr) (n : Nat) (fs : List Fr) : Prop := Reads w B 3 A n (cellsOf fs) ∧ Bodies w B fs

theorem cellsOf_length (fs : List Fr) : (cellsOf fs).length = fs.length * 3 := by
  induction fs with
  | nil => rfl
  | cons f r ih => simp only [cellsOf, List.flatMap_cons, List.length_append, List.length_cons] at ih ⊢; rw [ih]; simp [Fr.cells]; omega
theorem cellsOf_at (fs : List Fr) (i : Nat) (f : Fr) (h : fs[i]? = some f) : (cellsOf fs)[i * 3]? = some (.bool f.cmd) ∧ (cellsOf fs)[i * 3 + 1]? = some (.bool f.more) ∧ (cellsOf fs)[i * 3 + 2]? = some (.slice f.A f.n f.c) := by
  induction fs generalizing i with
  | nil => cases h
  | cons g r ih =>
    cases i with
    | zero =>
      simp at h
      subst h
      exact ⟨rfl, rfl, rfl⟩
    | succ i =>
      have := ih i (by simpa using h)
      have e : ∀ k, (cellsOf (g :: r))[(i + 1) * 3 + k]? = (cellsOf r)[i * 3 + k]? := fun k => by
        have e1 : (i + 1) * 3 + k = (i * 3 + k) + 3 := by omega
        rw [e1]
        rfl
      exact ⟨(e 0).trans this.1, (e 1).trans this.2.1, (e 2).trans this.2.2⟩
theorem cellsOf_snoc (fs : List Fr) (f : Fr) : cellsOf fs ++ f.cells = cellsOf (fs ++ [f]) := by simp [cellsOf]
theorem FrS.len {w : World} {B n : Nat} {A : Option Addr} {fs : List Fr} (h : FrS w B A n fs) : fs.length = n := by
  have := h.1.1
  rw [cellsOf_length] at this
  omega
theorem add_off (ad : Addr) (i j : Nat) (hj : 0 < j) : ad.add (i + j) = ⟨(ad.add i).block, (ad.add i).off + j, none⟩ := by
  unfold Addr.add
  by_cases hi : i = 0
  · subst hi; simp [show ¬ j = 0 by omega]
  · simp [hi, Nat.add_assoc, show ¬ j = 0 by omega]
theorem FrS.at_ {w : World} {B n : Nat} {A : Option Addr} {fs : List Fr} (h : FrS w B A n fs) {i : Nat} (hi : i < n) : ∃ ad f, A = some ad ∧ ad.block < B ∧ fs[i]? = some f ∧
    w.cell? (ad.add (i * 3)) = some (.bool f.cmd) ∧ w.cell? ⟨(ad.add (i * 3)).block, (ad.add (i * 3)).off + 1, none⟩ = some (.bool f.more) ∧ w.cell? ⟨(ad.add (i * 3)).block, (ad.add (i * 3)).off + 2, none⟩ = some (.slice f.A f.n f.c) := by
  obtain ⟨ad, e, hb, hc⟩ := h.1.2 (by omega)
  have hl := h.len
  have hf : fs[i]? = some fs[i] := List.getElem?_eq_getElem (by omega)
  obtain ⟨h1, h2, h3⟩ := cellsOf_at fs i _ hf
  exact ⟨ad, _, e, hb, hf, hc _ _ h1, (add_off ad (i * 3) 1 (by decide)) ▸ hc _ _ h2, (add_off ad (i * 3) 2 (by decide)) ▸ hc _ _ h3⟩
theorem Bodies.after {w w' : World} {fs : List Fr} (h : Bodies w w.heap.size fs) (hb : Below w.heap.size w w') : Bodies w' w'.heap.size fs := fun f hf => ⟨(h f hf).1.after hb, (h f hf).2⟩
theorem FrS.after {w w' : World} {n : Nat} {A : Option Addr} {fs : List Fr} (h : FrS w w.heap.size A n fs) (hb : Below w.heap.size w w') : FrS w' w'.heap.size A n fs := ⟨(h.1.below hb).more hb.size, h.2.after hb⟩
end Go.Proofs.YtkpcepdalegmmaaGreatDoor

/-! Frames: laws.zzFits2, laws.zzFits1, laws.frames, spec.Proper. -/
namespace Go.Proofs.YtkpcepdalegmmaaGreatDoor
open Go.RowKit

def Fr.val (f : Fr) : Value := .agg #[.bool f.cmd, .bool f.more, .slice f.A f.n f.c]
def small (f : Fr) : Bool := decide (f.n ≤ 2147483647)

theorem all_at_no {α : Type} {p : α → Bool} {l : List α} {k : Nat} {x : α} (h : l[k]? = some x) (hp : p x = false) : l.all p = false := by
  rw [List.all_eq_false]
  exact ⟨x, List.mem_of_getElem? h, by simp [hp]⟩
theorem all_at_yes {α : Type} {p : α → Bool} {l : List α} {k : Nat} {x : α} (h : l[k]? = some x) (hp : p x = true) (ha : (l.take k).all p = true) : (l.take (k + 1)).all p = true := by
  have hk : k < l.length := (List.getElem?_eq_some_iff.1 h).1
  rw [List.take_succ_eq_append_getElem hk, List.all_append, ha, (List.getElem?_eq_some_iff.1 h).2]
  simp [hp]

end Go.Proofs.YtkpcepdalegmmaaGreatDoor

/-! Frames: laws.frames. -/
namespace Go.Proofs.YtkpcepdalegmmaaGreatDoor
open Go.RowKit

theorem own_base {w : World} {base size n c : Nat} {e : TypeId} {A : Option Addr} {xs : List Value} (h : w.ownsRow base e size (.slice A n c) n xs) {g : Nat} (hg : A.map (·.block) = some g) : base ≤ g := by
  rcases h.2 with ⟨hv, _⟩ | ⟨g', cap, cur, hv, hb, _⟩
  · injection hv with hA
    subst hA
    cases hg
  · injection hv with hA
    subst hA
    simp at hg
    omega

theorem elImpl : Elem 44 48 3 32 := ⟨Tryz.underlying44, ⟨.agg #[.bool false, .bool false, .slice none 0 0], by kernel_rfl, rfl⟩, by decide⟩

theorem Fr.one (f : Fr) : ∀ u ∈ (#[Value.bool f.cmd, .bool f.more, .slice f.A f.n f.c]).toList, u.oneCell' = true := by
  intro u hu
  simp at hu
  rcases hu with rfl | rfl | rfl <;> rfl

end Go.Proofs.YtkpcepdalegmmaaGreatDoor

/-! Frames: spec.Proper. -/
namespace Go.Proofs.YtkpcepdalegmmaaGreatDoor
open Go.RowKit

def badF (within : Bool) (f : Fr) : Bool := decide (1000 < f.n) || (f.cmd && (f.more || within))
def goodRun : Bool → List Fr → Bool
  | within, [] => !within
  | within, f :: r => !badF within f && goodRun f.more r
def proper (fs : List Fr) : Bool := goodRun false fs && decide (fs.length ≤ 20)

theorem badF_big {v : Bool} {f : Fr} (h : 1000 < f.n) : badF v f = true := by unfold badF; rw [decide_eq_true h]; rfl
theorem badF_small {v : Bool} {f : Fr} (h : ¬ 1000 < f.n) : badF v f = (f.cmd && (f.more || v)) := by unfold badF; rw [decide_eq_false h]; rfl
theorem run_no {fs : List Fr} {k : Nat} {f : Fr} {v : Bool} (hf : fs[k]? = some f) (h : goodRun false fs = goodRun v (fs.drop k)) (hb : badF v f = true) : proper fs = false := by
  obtain ⟨hk, e⟩ := List.getElem?_eq_some_iff.1 hf
  unfold proper
  rw [h, List.drop_eq_getElem_cons hk, e]
  simp [goodRun, hb]
theorem run_yes {fs : List Fr} {k : Nat} {f : Fr} {v : Bool} (hf : fs[k]? = some f) (h : goodRun false fs = goodRun v (fs.drop k)) (hb : badF v f = false) : goodRun false fs = goodRun f.more (fs.drop (k + 1)) := by
  obtain ⟨hk, e⟩ := List.getElem?_eq_some_iff.1 hf
  rw [h, List.drop_eq_getElem_cons hk, e]
  simp [goodRun, hb]
theorem run_end {fs : List Fr} {k : Nat} {v : Bool} (hk : fs.length ≤ k) (h : goodRun false fs = goodRun v (fs.drop k)) : proper fs = (decide (fs.length ≤ 20) && !v) := by
  unfold proper
  rw [h, List.drop_eq_nil_of_le hk]
  simp [goodRun, Bool.and_comm]

end Go.Proofs.YtkpcepdalegmmaaGreatDoor

/-! Frames: spec.Frames. -/
namespace Go.Proofs.YtkpcepdalegmmaaGreatDoor
open Go.RowKit

def flagU : Bool → Bool → UInt8
  | false, false => 0
  | false, true => 1
  | true, false => 4
  | true, true => 5
def longU : Bool → Bool → UInt8
  | false, false => 2
  | false, true => 3
  | true, false => 6
  | true, true => 7
def be8 (n : Nat) : List UInt8 := [0, 0, 0, 0, 0, 0, UInt8.ofNat (n / 256), UInt8.ofNat n]
def headF (cmd more : Bool) (n : Nat) : List UInt8 := if n ≤ 255 then [flagU cmd more, UInt8.ofNat n] else longU cmd more :: be8 n
def encF (f : Fr) : List UInt8 := headF f.cmd f.more f.n ++ f.body
def encs (fs : List Fr) : List UInt8 := fs.flatMap encF

theorem headF_small {c m : Bool} {n : Nat} (h : n ≤ 255) : headF c m n = [flagU c m, UInt8.ofNat n] := if_pos h
theorem headF_long {c m : Bool} {n : Nat} (h : ¬ n ≤ 255) : headF c m n = longU c m :: be8 n := if_neg h
theorem litTwo (w : World) (x : UInt8) (n : Nat) (hn : n ≤ 255) : RB (w.alloc (.cells #[.int .u8 (x.toNat : Int), .int .u8 (n : Int)] 5)) (w.alloc (.cells #[.int .u8 (x.toNat : Int), .int .u8 (n : Int)] 5)).heap.size (some ⟨w.heap.size, 0, none⟩) 2 [x, UInt8.ofNat n] :=
  (OB.lit w 0 (Nat.zero_le _) [x, UInt8.ofNat n] _ (by
    have e : (UInt8.ofNat n).toNat = n := by simp; omega
    simp [bv, e]) 2 rfl (by decide)).rb
theorem litOne8 (w : World) (x : UInt8) : RB (w.alloc (.cells #[.int .u8 (x.toNat : Int)] 5)) (w.alloc (.cells #[.int .u8 (x.toNat : Int)] 5)).heap.size (some ⟨w.heap.size, 0, none⟩) 1 [x] :=
  (OB.lit w 0 (Nat.zero_le _) [x] _ rfl 1 rfl (by decide)).rb
theorem byteInt (n q : Nat) : ((UInt8.ofNat (n / 2 ^ (8 * q))).toNat : Int) = (n : Int) / 2 ^ (8 * q) % 256 := by
  have h : (UInt8.ofNat (n / 2 ^ (8 * q))).toNat = n / 2 ^ (8 * q) % 256 := by generalize n / 2 ^ (8 * q) = y; simp
  rw [h, Int.natCast_emod, Int.natCast_ediv, Int.natCast_pow]
  rfl
theorem be8_snoc {n j q : Nat} (hn : n ≤ 1000) (hj : j < 8) (hq : (7 - (j : Int)) = (q : Int)) : (be8 n).take j ++ [UInt8.ofNat (n / 2 ^ (8 * q))] = (be8 n).take (j + 1) := by
  have hz : ∀ k, 1000 < k → n / k = 0 := fun k hk => Nat.div_eq_of_lt (by omega)
  have : j = 0 ∨ j = 1 ∨ j = 2 ∨ j = 3 ∨ j = 4 ∨ j = 5 ∨ j = 6 ∨ j = 7 := by omega
  rcases this with rfl | rfl | rfl | rfl | rfl | rfl | rfl | rfl
  · obtain rfl : q = 7 := by omega
    rw [hz _ (by decide)]; rfl
  · obtain rfl : q = 6 := by omega
    rw [hz _ (by decide)]; rfl
  · obtain rfl : q = 5 := by omega
    rw [hz _ (by decide)]; rfl
  · obtain rfl : q = 4 := by omega
    rw [hz _ (by decide)]; rfl
  · obtain rfl : q = 3 := by omega
    rw [hz _ (by decide)]; rfl
  · obtain rfl : q = 2 := by omega
    rw [hz _ (by decide)]; rfl
  · obtain rfl : q = 1 := by omega
    rfl
  · obtain rfl : q = 0 := by omega
    simp [be8]
theorem long_done {w : World} {base n c : Nat} {A : Option Addr} {l : List UInt8} {x : UInt8} {k : Nat} (ho : OB w base A n c (l ++ [x] ++ (be8 k).take 8)) : OB w base A n c (l ++ (x :: be8 k)) := by
  have e : l ++ [x] ++ (be8 k).take 8 = l ++ (x :: be8 k) := by simp [be8]
  rw [← e]
  exact ho
theorem g6_ne {w : World} {A : Option Addr} {H base n c : Nat} {l : List UInt8} {t : TypeId} {cs : Array Value} (ho : OB w base A n c l) (hg : Blk w H t cs) (hne : 5 ≠ t) : some H ≠ A.map (·.block) := by
  have := own_blk_ne ho hg hne
  cases A with
  | none => simp
  | some ad =>
    simp [Value.ownBlock] at this ⊢
    exact fun e => this e.symm
theorem OB.row_ne {w : World} {A : Option Addr} {base n c g : Nat} {l : List UInt8} (ho : OB w base A n c l) (hg : w.heap.size ≤ g) : some g ≠ A.map (·.block) := by
  cases A with
  | none => simp
  | some ad =>
    have := (ho.block rfl).2
    simp
    omega
theorem enc_snoc {w : World} {fs : List Fr} {k base n c : Nat} {A : Option Addr} {f : Fr} {h : List UInt8} (hf : fs[k]? = some f) (hh : headF f.cmd f.more f.n = h) (ho : OB w base A n c (encs (fs.take k) ++ h ++ f.body)) : OB w base A n c (encs (fs.take (k + 1))) := by
  obtain ⟨hk, e⟩ := List.getElem?_eq_some_iff.1 hf
  have e2 : encs (fs.take (k + 1)) = encs (fs.take k) ++ h ++ f.body := by
    rw [List.take_succ_eq_append_getElem hk, e]
    simp [encs, encF, hh]
  rw [e2]
  exact ho

end Go.Proofs.YtkpcepdalegmmaaGreatDoor
