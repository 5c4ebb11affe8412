/- 'Apart ps w w'': of what was there only the blocks ps may have turned. -/
import Derived.Test.YtkpcepdalegmmaaDoorSlice
namespace Go.Proofs.YtkpcepdalegmmaaDoor
open Go.RowKit

structure Apart (ps : List Nat) (w w' : World) : Prop where
  os : w'.os = w.os
  tape : w'.tape = w.tape
  output : w'.output = w.output
  size : w.heap.size ≤ w'.heap.size
  block : ∀ k, k < w.heap.size → k ∉ ps → w'.heap[k]? = w.heap[k]?

section
variable {ps qs : List Nat} {a b c w w' : World}
theorem Apart.refl (ps : List Nat) (w : World) : Apart ps w w := ⟨rfl, rfl, rfl, Nat.le_refl _, fun _ _ _ => rfl⟩
theorem Apart.trans (h : Apart ps a b) (k : Apart ps b c) : Apart ps a c :=
  ⟨k.os.trans h.os, k.tape.trans h.tape, k.output.trans h.output, Nat.le_trans h.size k.size, fun i hi hn => (k.block i (Nat.lt_of_lt_of_le hi h.size) hn).trans (h.block i hi hn)⟩
theorem Apart.mono (h : Apart ps a b) (hs : ∀ k, k < a.heap.size → k ∈ ps → k ∈ qs) : Apart qs a b := ⟨h.os, h.tape, h.output, h.size, fun i hi hn => h.block i hi fun hm => hn (hs i hi hm)⟩
theorem Apart.drew (h : Apart ps a w) : Apart ps a w.drew := ⟨h.os, h.tape, h.output, h.size, h.block⟩
theorem Apart.drewN (h : Apart ps a w) (n : Nat) : Apart ps a (w.drewN n) := ⟨h.os, h.tape, h.output, h.size, h.block⟩
theorem Apart.alloc (h : Apart ps a w) (o : Obj) : Apart ps a (w.alloc o) :=
  ⟨h.os, h.tape, h.output, Nat.le_trans h.size (by simp), fun i hi hn => (Below.heap_alloc w o i (Nat.lt_of_lt_of_le hi h.size)).trans (h.block i hi hn)⟩
theorem Apart.setN (h : Apart ps a w) {g o : Nat} (hg : g ∈ ps ∨ a.heap.size ≤ g) (u : Value) : Apart ps a (w.setCell ⟨g, o, none⟩ u) :=
  ⟨h.os, h.tape, h.output, by simpa [World.setCell] using h.size, fun i hi hn => (Below.heap_setCell w ⟨g, o, none⟩ u i (by
    rintro rfl
    rcases hg with hg | hg
    · exact hn hg
    · exact absurd hi (Nat.not_lt.2 hg))).trans (h.block i hi hn)⟩
theorem Apart.of_below (h : Below a.heap.size a b) : Apart ps a b := ⟨h.os, h.tape, h.output, h.size, fun i hi _ => h.block i hi⟩
theorem Apart.of_grown {row : Option Nat} (h : a.grownBy b row) (hr : ∀ g, row = some g → g ∈ ps ∨ a.heap.size ≤ g) : Apart ps a b :=
  ⟨h.os, h.tape, h.output, h.size, fun i hi hn => h.block i hi fun e => by
    rcases hr i e.symm with h1 | h1
    · exact hn h1
    · omega⟩
theorem Apart.below (h : Apart ps a b) {B : Nat} (hB : B ≤ a.heap.size) (hp : ∀ k ∈ ps, B ≤ k) : Below B a b :=
  ⟨h.os, h.tape, h.output, h.size, fun k hk => h.block k (by omega) fun hm => by have := hp k hm; omega⟩
theorem Apart.then_below (h : Apart ps a b) (k : Below b.heap.size b c) : Apart ps a c := h.trans (Apart.of_below k)
theorem Apart.blk (h : Apart ps a b) {g : Nat} {t : TypeId} {cs : Array Value} (hg : Blk a g t cs) (hn : g ∉ ps) : Blk b g t cs := (h.block g hg.lt hn).trans hg
theorem Apart.cell (h : Apart ps a b) {p : Addr} (hp : p.block < a.heap.size) (hn : p.block ∉ ps) : b.cell? p = a.cell? p := World.cell?_of_block (h.block p.block hp hn)
theorem Apart.frozen (h : Apart ps a b) {p : Addr} (hp : p.block < a.heap.size) (hn : p.block ∉ ps) : b.frozen? p = a.frozen? p := World.frozen?_of_block (h.block p.block hp hn)
/-- A reading, none of the turned blocks its own. -/
theorem Apart.reads (h : Apart ps a b) {B size n : Nat} {A : Option Addr} {xs : List Value} (hr : Reads a B size A n xs) (hB : B ≤ a.heap.size) (hn : ∀ ad, A = some ad → ad.block ∉ ps) : Reads b B size A n xs :=
  ⟨hr.1, fun h0 => by
    obtain ⟨ad, e, hb, hc⟩ := hr.2 h0
    exact ⟨ad, e, hb, fun j u hu => (h.cell (by rw [block_of_add]; omega) (by rw [block_of_add]; exact hn ad e)).trans (hc j u hu)⟩⟩
theorem Apart.rb (h : Apart ps a b) {B n : Nat} {A : Option Addr} {l : List UInt8} (hr : RB a B A n l) (hB : B ≤ a.heap.size) (hn : ∀ ad, A = some ad → ad.block ∉ ps) : RB b B A n l := h.reads hr hB hn
theorem Apart.own (h : Apart ps a b) {base e size n : Nat} {v : Value} {xs : List Value} (ho : a.ownsRow base e size v n xs) (hn : ∀ g, v.ownBlock = some g → g ∉ ps) : b.ownsRow base e size v n xs := by
  refine ⟨ho.1, ?_⟩
  rcases ho.2 with h2 | ⟨g, cap, cur, hv, hg, hh, r⟩
  · exact .inl h2
  · exact .inr ⟨g, cap, cur, hv, hg, (h.block g (Array.getElem?_eq_some_iff.1 hh).1 (hn g (by rw [hv]; rfl))).trans hh, r⟩
theorem Apart.ob (h : Apart ps a b) {base n c : Nat} {A : Option Addr} {l : List UInt8} (ho : OB a base A n c l) (hn : ∀ ad, A = some ad → ad.block ∉ ps) : OB b base A n c l :=
  h.own ho fun g hg => by
    cases A with
    | none => cases hg
    | some ad => simp only [Value.ownBlock, Option.some.injEq] at hg; rw [← hg]; exact hn ad rfl
end
end Go.Proofs.YtkpcepdalegmmaaDoor
