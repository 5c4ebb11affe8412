/- Parts of a proof, laid behind one another: Words for memory: a slice that reads as cells, a block known whole, an owned row that takes an append of whatever source. -/
import Derived.Test.YtkpcepdalegmmaaGreatDoorRows
import Derived.WalkKit
import Derived.Deep.AppendSrc
import Derived.Deep.AppendLies
import Derived.Deep.Draws
import Derived.Deep.DeepFit
import Derived.Deep.DeepMust
import Derived.Maps.AppendAt
import Derived.Lib.Hide
import Derived.WalkSpells
import Derived.WalkLawsBesides
/-! Words for memory: a slice that reads as cells, a block known whole, an owned row that takes an append of whatever source. -/
namespace Go.Proofs.YtkpcepdalegmmaaGreatDoor
open Go.RowKit

theorem block_of_add (a : Addr) (n : Nat) : (a.add n).block = a.block := by unfold Addr.add; split <;> rfl
theorem add_of_add (a : Addr) (i j : Nat) : (a.add i).add j = a.add (i + j) := by
  unfold Addr.add
  by_cases hi : i = 0 <;> by_cases hj : j = 0 <;> simp [hi, hj, Nat.add_assoc]

/-- The slice value '.slice A n c' holds the cells xs (of 'size' cells an element), and its array lies below block B. -/
def Reads (w : World) (B size : Nat) (A : Option Addr) (n : Nat) (xs : List Value) : Prop :=
  xs.length = n * size ∧ (0 < n → ∃ ad, A = some ad ∧ ad.block < B ∧ ∀ j u, xs[j]? = some u → w.cell? (ad.add j) = some u)

section
variable {w w' : World} {B B' size n : Nat} {A : Option Addr} {xs : List Value}
theorem Reads.none_ : Reads w B size A 0 [] := ⟨by simp, fun h => absurd h (by omega)⟩
theorem Reads.at_ {k : Nat} (h : Reads w B 1 A n xs) (hk : k < n) : ∃ ad u, A = some ad ∧ ad.block < B ∧ xs[k]? = some u ∧ w.cell? (ad.add k) = some u := by
  obtain ⟨ad, e, hb, hc⟩ := h.2 (by omega)
  have hl : k < xs.length := by have := h.1; omega
  exact ⟨ad, xs[k], e, hb, List.getElem?_eq_getElem hl, hc k _ (List.getElem?_eq_getElem hl)⟩
theorem Reads.keep (h : Reads w B size A n xs) (hk : ∀ p : Addr, p.block < B → w'.cell? p = w.cell? p) : Reads w' B size A n xs :=
  ⟨h.1, fun hn => by
    obtain ⟨ad, e, hb, hc⟩ := h.2 hn
    exact ⟨ad, e, hb, fun j u hu => (hk _ (by rw [block_of_add]; exact hb)).trans (hc j u hu)⟩⟩
theorem Reads.more (h : Reads w B size A n xs) (hB : B ≤ B') : Reads w B' size A n xs :=
  ⟨h.1, fun hn => by
    obtain ⟨ad, e, hb, hc⟩ := h.2 hn
    exact ⟨ad, e, by omega, hc⟩⟩
theorem Reads.below (h : Reads w B size A n xs) (hb : Below B w w') : Reads w' B size A n xs := h.keep fun _ hp => hb.cell hp
theorem Reads.drew (h : Reads w B size A n xs) : Reads w.drew B size A n xs := h
theorem Reads.drewN (h : Reads w B size A n xs) (k : Nat) : Reads (w.drewN k) B size A n xs := h
theorem Reads.alloc (h : Reads w B size A n xs) (hB : B ≤ w.heap.size) (o : Obj) : Reads (w.alloc o) B size A n xs := h.keep fun p hp => World.cell?_alloc_lt w o p (by omega)
theorem Reads.setCell (h : Reads w B size A n xs) {p : Addr} (hB : B ≤ p.block) (u : Value) : Reads (w.setCell p u) B size A n xs :=
  h.keep fun q hq => World.cell?_setCell_other w p q u (fun e => by subst e; omega)
theorem Reads.grown (h : Reads w B size A n xs) {row : Option Nat} (hg : w.grownBy w' row) (hB : B ≤ w.heap.size) (hr : ∀ g, row = some g → B ≤ g) : Reads w' B size A n xs :=
  h.keep fun p hp => World.cell?_of_block (hg.block p.block (by omega) (fun e => by have := hr _ e.symm; omega))
/-- A reading in any row other than the one that has turned. -/
theorem Reads.aside (h : Reads w B size A n xs) {row : Option Nat} (hg : w.grownBy w' row) (hB : B ≤ w.heap.size) (hr : ∀ ad g, A = some ad → row = some g → ad.block ≠ g) : Reads w' B size A n xs :=
  ⟨h.1, fun hn => by
    obtain ⟨ad, e, hb, hc⟩ := h.2 hn
    refine ⟨ad, e, hb, fun j u hu => (World.cell?_of_block (hg.block _ (by rw [block_of_add]; omega) (fun e' => ?_))).trans (hc j u hu)⟩
    rw [block_of_add] at e'
    exact hr ad _ e e'.symm rfl⟩
theorem Reads.cut (h : Reads w B size A n xs) {k cap : Nat} (hk : k ≤ n) (hc : n ≤ cap) :
    Reads w B size (if cap = k then A else A.map (·.add (k * size))) (n - k) (xs.drop (k * size)) := by
  refine ⟨by rw [List.length_drop, h.1, Nat.sub_mul], fun hn => ?_⟩
  obtain ⟨ad, rfl, hb, hcell⟩ := h.2 (by omega)
  rw [if_neg (by omega)]
  refine ⟨ad.add (k * size), rfl, by rw [block_of_add]; exact hb, fun j u hu => ?_⟩
  rw [add_of_add]
  exact hcell _ u (by rw [← hu, List.getElem?_drop])
/-- The first m elements. -/
theorem Reads.take (h : Reads w B size A n xs) {m : Nat} (hm : m ≤ n) : Reads w B size A m (xs.take (m * size)) := by
  refine ⟨by rw [List.length_take, h.1]; exact Nat.min_eq_left (Nat.mul_le_mul_right _ hm), fun h0 => ?_⟩
  obtain ⟨ad, e, hb, hc⟩ := h.2 (by omega)
  refine ⟨ad, e, hb, fun j u hu => hc j u ?_⟩
  rw [List.getElem?_take] at hu
  split at hu
  · exact hu
  · cases hu
theorem Reads.of_own {base : Nat} {e : TypeId} {c : Nat} (h : w.ownsRow base e size (.slice A n c) n xs) : Reads w w.heap.size size A n xs := by
  refine ⟨h.1, fun hn => ?_⟩
  rcases h.2 with ⟨hv, rfl⟩ | ⟨g, cap, cur, hv, _, hg, _⟩
  · omega
  · injection hv with hA _ _
    subst hA
    refine ⟨_, rfl, ?_, h.cells (g := g) rfl⟩
    exact (Array.getElem?_eq_some_iff.1 hg).1
end

/-- Block g is just the cells cs, of element type t, none frozen. -/
def Blk (w : World) (g : Nat) (t : TypeId) (cs : Array Value) : Prop := w.heap[g]? = some (.cells cs t (0, 0))

section
variable {w w' : World} {g : Nat} {t : TypeId} {cs : Array Value}
theorem Blk.lt (h : Blk w g t cs) : g < w.heap.size := (Array.getElem?_eq_some_iff.1 h).1
theorem Blk.cell (h : Blk w g t cs) (i : Nat) : w.cell? ⟨g, i, none⟩ = cs[i]? := cell_of_row w g i cs t (0, 0) h
theorem Blk.frozen (h : Blk w g t cs) (i : Nat) : w.frozen? ⟨g, i, none⟩ = false := by
  unfold Blk at h
  simp [World.frozen?, h]
theorem Blk.new (w : World) (t : TypeId) (cs : Array Value) : Blk (w.alloc (.cells cs t)) w.heap.size t cs := heap_alloc_new w _
theorem Blk.drew (h : Blk w g t cs) : Blk w.drew g t cs := h
theorem Blk.drewN (h : Blk w g t cs) (n : Nat) : Blk (w.drewN n) g t cs := h
theorem Blk.alloc (h : Blk w g t cs) (o : Obj) : Blk (w.alloc o) g t cs := (Below.heap_alloc w o g h.lt).trans h
theorem Blk.set_ (h : Blk w g t cs) (i : Nat) (u : Value) : Blk (w.setCell ⟨g, i, none⟩ u) g t (cs.setIfInBounds i u) := by
  unfold Blk at h ⊢
  simp [World.setCell, Array.getElem?_modify, h]
theorem Blk.far (h : Blk w g t cs) {p : Addr} (hp : g ≠ p.block) (u : Value) : Blk (w.setCell p u) g t cs := (Below.heap_setCell w p u g hp).trans h
theorem Blk.below {B : Nat} (h : Blk w g t cs) (hb : Below B w w') (hg : g < B) : Blk w' g t cs := (hb.block g hg).trans h
theorem Blk.grown {row : Option Nat} (h : Blk w g t cs) (hb : w.grownBy w' row) (hg : some g ≠ row) : Blk w' g t cs := (hb.block g h.lt hg).trans h
theorem Blk.ne_ {g' : Nat} {t' : TypeId} {cs' : Array Value} (h : Blk w g t cs) (h' : Blk w g' t' cs') (hne : t ≠ t') : g ≠ g' := by
  rintro rfl
  unfold Blk at h h'
  rw [h] at h'
  injection h' with h'
  injection h' with _ ht
  exact hne ht
theorem own_blk_ne {base : Nat} {e : TypeId} {size n : Nat} {v : Value} {xs : List Value} (h : w.ownsRow base e size v n xs) (hg : Blk w g t cs) (hne : e ≠ t) : v.ownBlock ≠ some g := by
  rcases h.2 with ⟨rfl, _⟩ | ⟨g', cap, cur, rfl, _, hh, _⟩
  · simp [Value.ownBlock]
  · intro he
    have : g' = g := by simpa [Value.ownBlock] using he
    subst this
    exact Blk.ne_ (t := e) hh hg hne rfl
end

section
variable {a b c w w' : World}
theorem grownBy_trans {row : Option Nat} (h : a.grownBy b row) (k : b.grownBy c row) : a.grownBy c row :=
  ⟨k.os.trans h.os, k.tape.trans h.tape, k.output.trans h.output, Nat.le_trans h.size k.size, fun i hi hne => (k.block i (Nat.lt_of_lt_of_le hi h.size) hne).trans (h.block i hi hne)⟩
theorem grownBy_refl (w : World) (row : Option Nat) : w.grownBy w row := ⟨rfl, rfl, rfl, Nat.le_refl _, fun _ _ _ => rfl⟩
theorem grownBy_drew {row : Option Nat} (h : a.grownBy w row) : a.grownBy w.drew row := ⟨h.os, h.tape, h.output, h.size, h.block⟩
theorem grownBy_drewN {row : Option Nat} (h : a.grownBy w row) (n : Nat) : a.grownBy (w.drewN n) row := ⟨h.os, h.tape, h.output, h.size, h.block⟩
theorem grownBy_alloc {row : Option Nat} (h : a.grownBy w row) (o : Obj) : a.grownBy (w.alloc o) row :=
  ⟨h.os, h.tape, h.output, Nat.le_trans h.size (by simp), fun i hi hne => (Below.heap_alloc w o i (Nat.lt_of_lt_of_le hi h.size)).trans (h.block i hi hne)⟩
theorem grownBy_setCell {row : Option Nat} (h : a.grownBy w row) {p : Addr} (hp : some p.block = row ∨ a.heap.size ≤ p.block) (u : Value) : a.grownBy (w.setCell p u) row :=
  ⟨h.os, h.tape, h.output, by simpa [World.setCell] using h.size, fun i hi hne => (Below.heap_setCell w p u i (by
    rintro rfl
    rcases hp with hp | hp
    · exact hne hp
    · omega)).trans (h.block i hi hne)⟩
theorem grownBy_of_below (h : Below a.heap.size a w) (row : Option Nat) : a.grownBy w row := ⟨h.os, h.tape, h.output, h.size, fun i hi _ => h.block i hi⟩
theorem below_of_grownBy (h : a.grownBy w none) : Below a.heap.size a w := ⟨h.os, h.tape, h.output, h.size, fun i hi => h.block i hi (by simp)⟩
theorem grownBy_none (h : a.grownBy w none) (row : Option Nat) : a.grownBy w row := ⟨h.os, h.tape, h.output, h.size, fun i hi _ => h.block i hi (by simp)⟩
theorem below_drewN {B : Nat} (h : Below B a w) (n : Nat) : Below B a (w.drewN n) := ⟨h.os, h.tape, h.output, h.size, h.block⟩
theorem bcell {B : Nat} (hb : Below B w w') : (∀ b o, b < B → w'.cell? ⟨b, o, none⟩ = w.cell? ⟨b, o, none⟩) ∧ (∀ b o, b < B → w'.frozen? ⟨b, o, none⟩ = w.frozen? ⟨b, o, none⟩) :=
  ⟨fun b o h => hb.cell (p := ⟨b, o, none⟩) h, fun b o h => hb.frozen (p := ⟨b, o, none⟩) h⟩
end

/-- What is owned has a head and a length written out. -/
theorem own_shape {w : World} {base : Nat} {e : TypeId} {size n : Nat} {v : Value} {xs : List Value} (h : w.ownsRow base e size v n xs) : ∃ A c, v = .slice A n c := by
  rcases h.2 with ⟨rfl, rfl⟩ | ⟨g, cap, cur, rfl, _⟩ <;> exact ⟨_, _, rfl⟩

section
variable {P : Program} (w : World)

theorem setCells_grown (w : World) (g : Nat) : ∀ (o : Nat) (vs : List Value), w.grownBy (w.setCells g o vs) (some g) := by
  intro o vs
  induction vs generalizing w o with
  | nil => exact grownBy_refl w _
  | cons v r ih => exact grownBy_trans (grownBy_setCell (grownBy_refl w _) (p := ⟨g, o, none⟩) (.inl rfl) v) (ih _ _)

theorem setCells_blk (w : World) (g : Nat) (cur : Array Value) (e : TypeId) (hg : w.heap[g]? = some (.cells cur e (0, 0))) :
    ∀ (vs : List Value) (o : Nat), o + vs.length ≤ cur.size → ∃ cur' : Array Value, (w.setCells g o vs).heap[g]? = some (.cells cur' e (0, 0)) ∧ cur'.toList = cur.toList.take o ++ vs ++ cur.toList.drop (o + vs.length) := by
  intro vs
  induction vs generalizing w cur with
  | nil => intro o _; exact ⟨cur, hg, by simp⟩
  | cons v r ih =>
    intro o ho
    simp only [List.length_cons] at ho
    have h1 := heap_setCell_same w g o cur e v hg
    obtain ⟨cur', hc, ht⟩ := ih _ _ h1 (o + 1) (by simp; omega)
    refine ⟨cur', hc, ?_⟩
    rw [ht]
    have hlt : o < cur.toList.length := by simpa using (by omega : o < cur.size)
    simp only [Array.toList_setIfInBounds, List.length_cons]
    rw [List.take_succ_eq_append_getElem (by simpa using hlt), List.take_set_of_le (by omega), List.drop_set_of_lt (by omega)]
    simp [Nat.add_assoc, Nat.add_comm 1]

theorem setCells_row (w : World) (g : Nat) (cur : Array Value) (e : TypeId) (hg : w.heap[g]? = some (.cells cur e (0, 0))) (o : Nat) (news xs : List Value) (hfit : o + news.length ≤ cur.size)
    (htake : cur.toList.take o = xs) {k : Nat} (hk : o + news.length = k) :
    ∃ cur' : Array Value, (w.setCells g o news).heap[g]? = some (.cells cur' e (0, 0)) ∧ cur'.size = cur.size ∧ cur'.toList.take k = xs ++ news := by
  obtain ⟨cur', h1, h2⟩ := setCells_blk w g cur e hg news o hfit
  have hl : cur.toList.length = cur.size := by simp
  have hx : xs.length = o := by rw [← htake, List.length_take, hl]; omega
  refine ⟨cur', h1, ?_, ?_⟩
  · have : cur'.toList.length = cur.toList.length := by rw [h2]; simp; omega
    simpa using this
  · rw [h2, htake, ← hk, ← hx, ← List.length_append]
    exact List.take_left

/-- append onto a row of the call's own, of whatever source. -/
theorem run_append_osrc (base : Nat) (t tx ty e : TypeId) (i : TypeInfo) (z : Value) (size bytes : Nat) (ht : P.underlying t = some (.slice e)) (hi : P.info? e = some i) (hz : i.zero = some z)
    (hsize : i.size = size) (hby : i.bytes = bytes) (hzs : z.cells.size = size) (hsz : 0 < size)
    (A : Option Addr) (n c : Nat) (xs : List Value) (hown : w.ownsRow base e size (.slice A n c) n xs)
    (x : Value) (m : Nat) (news : List Value) (hs : Src P size tx x m news w)
    (h63 : n + m ≤ maxLen) (hbytes : (n + m) * bytes ≤ 140737488355328) (hbase : base ≤ w.heap.size) :
    ∃ A' c' w', (Builtin.append_ #[t, tx] ty #[.slice A n c, x]).run P w = .ok (.slice A' (n + m) c') w' ∧ w'.ownsRow base e size (.slice A' (n + m) c') (n + m) (xs ++ news) ∧
      w.grownBy w' (A.map (·.block)) ∧ (A' = A ∨ A' = some ⟨w.heap.size, 0, none⟩) := by
  subst hsize
  subst hby
  have hl := hs.newsLen
  have hsmall : n + m ≤ 9223372036854775807 := by simp only [maxLen] at h63; omega
  have hlen : (xs ++ news).length = (n + m) * i.size := by rw [List.length_append, hown.1, hl, Nat.add_mul]
  have grown : ∀ (old : Nat), old < n + m → ∀ (row : Option Nat),
      (w.drew.alloc (.cells ((xs ++ news).toArray ++ Builtin.zeroCells z.cells (grownCap w (n + m) old e - (n + m))) e)).ownsRow base e i.size
        (.slice (some ⟨w.heap.size, 0, none⟩) (n + m) (grownCap w (n + m) old e)) (n + m) (xs ++ news) ∧
      w.grownBy (w.drew.alloc (.cells ((xs ++ news).toArray ++ Builtin.zeroCells z.cells (grownCap w (n + m) old e - (n + m))) e)) row := by
    intro old ho row
    have hge := grownCap_ge w (n + m) old e
    have hcm : grownCap w (n + m) old e ≤ maxLen := grownCap_le_maxLen w (n + m) old e h63
    refine ⟨⟨hlen, .inr ⟨w.heap.size, _, _, rfl, hbase, heap_alloc_new w.drew _, hge, hcm, ?_, ?_⟩⟩, ⟨rfl, rfl, rfl, by simp, fun k hk _ => Below.heap_alloc w.drew _ k hk⟩⟩
    · simp only [Array.size_append, List.size_toArray, size_zeroCells, hzs, hlen, ← Nat.add_mul]
      congr 1
      omega
    · simp only [Array.toList_append]
      rw [← hlen]
      exact List.take_left
  rcases hown.2 with ⟨hv, rfl⟩ | ⟨g, cap, cur, hv, hbg, hg, hnc, hcm, hcs, htake⟩
  · injection hv with hA _ hc
    subst hA
    subst hc
    have hx : xs = [] := List.eq_nil_of_length_eq_zero (by simpa using hown.1)
    subst hx
    by_cases hm : m = 0
    · subst hm
      have hn : news = [] := List.eq_nil_of_length_eq_zero (by simpa using hl)
      subst hn
      refine ⟨none, 0, w, ?_, World.ownsRow_nil w base e i.size, grownBy_refl w _, .inl rfl⟩
      have hcells := hs.cells
      rcases hs.kind with ⟨e', hk⟩ | hk <;> simp [Builtin.append_, run_underlying ht, run_underlying hk, sizeOf, typeInfo, hi, hs.len, hcells]
    · have hr := run_append_grow_src (P := P) w t tx ty e i z ht hi hz none 0 0 [] (by simp [Builtin.firstCells]) x m news hs (by omega) (by omega) (growslice_fits (by omega) hbytes)
      have hgr := grown 0 (by omega) none
      exact ⟨_, _, _, hr, hgr.1, hgr.2, .inr rfl⟩
  · injection hv with hA _ hc
    subst hA
    subst hc
    by_cases hroom : n + m ≤ c
    · have hfit : n * i.size + news.length ≤ cur.size := by rw [hl, hcs, ← Nat.add_mul]; exact Nat.mul_le_mul_right _ hroom
      have hr := run_append_room_src (P := P) w t tx ty e i ht hi g 0 n c x m news hs hroom
        (fun j hj => by rw [cell_of_row w g _ cur e (0, 0) hg]; simp only [Nat.zero_add]; rw [Array.getElem?_eq_getElem (by omega)]; rfl)
        (fun j hj => frozen_of_row w g _ cur e hg)
      rw [Nat.zero_add] at hr
      obtain ⟨cur', hcur', hsz', htk'⟩ : ∃ cur' : Array Value, (w.setCells g (n * i.size) news).heap[g]? = some (.cells cur' e (0, 0)) ∧ cur'.size = cur.size ∧ cur'.toList.take ((n + m) * i.size) = xs ++ news :=
        setCells_row w g cur e hg (n * i.size) news xs hfit htake (by rw [← hlen, List.length_append]; have := hown.1; omega)
      refine ⟨_, _, _, hr, ⟨hlen, .inr ⟨g, c, cur', rfl, hbg, hcur', hroom, hcm, by rw [hsz', hcs], htk'⟩⟩, ?_, .inl rfl⟩
      exact setCells_grown w g (n * i.size) news
    · have holds : ∀ j u, xs[j]? = some u → w.cell? ((⟨g, 0, none⟩ : Addr).add j) = some u := hown.cells (g := g) rfl
      have hr := run_append_grow_src (P := P) w t tx ty e i z ht hi hz (some ⟨g, 0, none⟩) n c xs (run_firstCells_some w.drew i.size n _ n c xs hown.1 (by simpa using holds)) x m news hs (by omega) (by omega) (growslice_fits (by omega) hbytes)
      have hgr := grown c (by omega) (some g)
      exact ⟨_, _, _, hr, hgr.1, hgr.2, .inr rfl⟩
end
end Go.Proofs.YtkpcepdalegmmaaGreatDoor
