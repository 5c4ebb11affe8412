/- Parts of a proof, laid behind one another: Frames: impl.ParseFrames. Frames: bytes that end within the last frame are no stream. laws.FnFramesCut: the walk. Frames: impl.sent. -/
import Derived.Test.YtkpcepdalegmmaaGreatDoorM30
import Derived.Test.YtkpcepdalegmmaaGreatDoorM03
import Derived.Test.YtkpcepdalegmmaaGreatDoorM29
import Derived.Test.YtkpcepdalegmmaaGreatDoorM17
import Derived.Test.YtkpcepdalegmmaaGreatDoorM16
import Derived.Deep.RegionLaw
/-! Frames: impl.ParseFrames. -/
namespace Go.Proofs.YtkpcepdalegmmaaGreatDoor
open Go.RowKit

/-- What ParseFrames answers. -/
def ParsedAll (w : World) (ms : List (List Fr)) (ok : Bool) (e : Ending) (w' : World) : Prop :=
  (ok = true → ∃ (FA : Option Addr) (fc : Nat) (os : List Fr), e = .returned (.tuple #[.slice FA os.length fc, .bool true]) ∧ w'.ownsRow w.heap.size 48 3 (.slice FA os.length fc) os.length (cellsOf os) ∧ (∀ f ∈ os, OB w' w.heap.size f.A f.n f.c f.body) ∧ os.map keyOf = keysAll ms) ∧
  (ok = false → e = .returned (.tuple #[.slice none 0 0, .bool false])) ∧ Below w.heap.size w w'

set_option maxRecDepth 100000 in
theorem ParseFrames (A : Option Addr) (n c : Nat) (l : List UInt8) (ms : List (List Fr)) (ok : Bool) (w : World) (hr : RB w w.heap.size A n l) (hn : n ≤ 2147483647) (hst : Stream l ms ok) :
    Calls Tryz.prog 13 #[.slice A n c] w (ParsedAll w ms ok) := by
  have hmf : ∀ (fn : Fn) (first cap : Array Value) (w : World), (Instr.makeFunc fn first cap).run Tryz.prog w = .ok (.func fn first cap) w := fun _ _ _ _ => rfl
  go_enter Tryz.func13, Tryz.ntmps13
  go_wp2_with fail
  refine (quietly_any 25 _ _ (fun q w' => q = true ∧ ∃ (FA : Option Addr) (fc : Nat) (os : List Fr), Blk w' (w.heap.size + 1) 44 #[.slice FA os.length fc] ∧ Blk w' (w.heap.size + 1 + 1) 4 #[.bool ok] ∧ w'.ownsRow (w.heap.size + 4) 48 3 (.slice FA os.length fc) os.length (cellsOf os) ∧
    (∀ f ∈ os, OB w' (w.heap.size + 4) f.A f.n f.c f.body) ∧ (ok = true → os.map keyOf = keysAll ms) ∧ Below w.heap.size w w') (fun W => rfl) ?_).mono ?_
  · have b0 := (((Blk.new w 23 #[.slice A n c]).alloc (.cells #[.slice none 0 0] 44)).alloc (.cells #[.bool false] 4)).alloc (.cells #[.bool false] 4)
    have b1 := ((Blk.new (w.alloc (.cells #[.slice A n c] 23)) 44 #[.slice none 0 0]).alloc (.cells #[.bool false] 4)).alloc (.cells #[.bool false] 4)
    have b2 := (Blk.new ((w.alloc (.cells #[.slice A n c] 23)).alloc (.cells #[.slice none 0 0] 44)) 4 #[.bool false]).alloc (.cells #[.bool false] 4)
    have b3 := Blk.new (((w.alloc (.cells #[.slice A n c] 23)).alloc (.cells #[.slice none 0 0] 44)).alloc (.cells #[.bool false] 4)) 4 #[.bool false]
    have hr' := ((((hr.new (.cells #[.slice A n c] 23)).new (.cells #[.slice none 0 0] 44)).new (.cells #[.bool false] 4)).new (.cells #[.bool false] 4))
    have hbA : Below w.heap.size w ((((w.alloc (.cells #[.slice A n c] 23)).alloc (.cells #[.slice none 0 0] 44)).alloc (.cells #[.bool false] 4)).alloc (.cells #[.bool false] 4)) := (((((Below.refl _ _).alloc (by first | exact Nat.le_refl _ | (simp only [World.size_alloc]; omega)) (.cells #[.slice A n c] 23)).alloc (by first | exact Nat.le_refl _ | (simp only [World.size_alloc]; omega)) (.cells #[.slice none 0 0] 44)).alloc (by first | exact Nat.le_refl _ | (simp only [World.size_alloc]; omega)) (.cells #[.bool false] 4)).alloc (by first | exact Nat.le_refl _ | (simp only [World.size_alloc]; omega)) (.cells #[.bool false] 4))
    have hsA : ((((w.alloc (.cells #[.slice A n c] 23)).alloc (.cells #[.slice none 0 0] 44)).alloc (.cells #[.bool false] 4)).alloc (.cells #[.bool false] 4)).heap.size = w.heap.size + 4 := by simp
    generalize ((((w.alloc (.cells #[.slice A n c] 23)).alloc (.cells #[.slice none 0 0] 44)).alloc (.cells #[.bool false] 4)).alloc (.cells #[.bool false] 4)) = W at *
    simp only [World.size_alloc] at *
    refine (ParseFrames_f w.heap.size (w.heap.size + 1) (w.heap.size + 1 + 1) A n c l ms ok W hr' hn b0 b1 b2 hst).mono ?_
    rintro e w' ⟨rfl, FA, fc, os, t1, t2, ho, hbo, hk, ha⟩
    have t3 := ha.blk b3 (by simp; omega)
    have hW : W.heap.size = w.heap.size + 4 := by omega
    rw [hW] at ho hbo
    exact ⟨t3.cell0, t3.frozen 0, .inl ⟨rfl, rfl, FA, fc, os, t1, t2, ho, hbo, hk, hbA.trans (ha.below (by omega) (by simp; omega))⟩⟩
  rintro e w' ⟨q, w1, rfl, ⟨rfl, FA, fc, os, t1, t2, ho, hbo, hk, hb⟩, rfl⟩
  simp only [World.size_alloc]
  have t1 := t1.farN (b := w.heap.size + 1 + 1 + 1) (o := 0) (by omega) (.bool true)
  have t2 := t2.farN (b := w.heap.size + 1 + 1 + 1) (o := 0) (by omega) (.bool true)
  have ho := ownsRow_setCell_below ho (a := ⟨w.heap.size + 1 + 1 + 1, 0, none⟩) (by simp only; omega) (.bool true)
  have hbo : ∀ f ∈ os, OB (w1.setCell ⟨w.heap.size + 1 + 1 + 1, 0, none⟩ (.bool true)) (w.heap.size + 4) f.A f.n f.c f.body := fun f hf => (hbo f hf).setN (by omega) _
  have hb := below_setN (b := w.heap.size + 1 + 1 + 1) (o := 0) hb (by omega) (.bool true)
  generalize w1.setCell ⟨w.heap.size + 1 + 1 + 1, 0, none⟩ (.bool true) = W at *
  have c1 := t1.cell0
  have c2 := t2.cell0
  have f1 := t1.frozen 0
  have f2 := t2.frozen 0
  have HT := Lib.hid (⟨t1, t2, ho, hbo, hk, hb⟩ : _ ∧ _ ∧ _ ∧ _ ∧ _ ∧ _)
  clear hr t1 t2 ho hbo hk hb hmf hst
  cases ok
  · go_wp2_with fail
    obtain ⟨t1, t2, ho, hbo, hk, hb⟩ := HT.out
    have k1 := ((t1.setN (.slice none 0 0)).farN (b := w.heap.size + 1 + 1) (o := 0) (by omega) (.bool false)).cell0
    have k2 := ((t2.farN (b := w.heap.size + 1) (o := 0) (by omega) (.slice none 0 0)).setN (.bool false)).cell0
    have hF : ParsedAll w ms false (.returned (.tuple #[.slice none 0 0, .bool false])) _ := ⟨(fun h => by cases h), fun _ => rfl, below_setN (b := w.heap.size + 1 + 1) (o := 0) (below_setN (b := w.heap.size + 1) (o := 0) hb (by omega) (.slice none 0 0)) (by omega) (.bool false)⟩
    exact bodyPost_ret (v := .tuple #[.slice none 0 0, .bool false]) (by simp [results, Tryz.results13, go_sem, k1, k2]) rfl hF
  · go_wp2_with fail
    obtain ⟨t1, t2, ho, hbo, hk, hb⟩ := HT.out
    have k1 := ((t1.setN (.slice FA os.length fc)).farN (b := w.heap.size + 1 + 1) (o := 0) (by omega) (.bool true)).cell0
    have k2 := ((t2.farN (b := w.heap.size + 1) (o := 0) (by omega) (.slice FA os.length fc)).setN (.bool true)).cell0
    have hF : ParsedAll w ms true (.returned (.tuple #[.slice FA os.length fc, .bool true])) ((W.setCell ⟨w.heap.size + 1, 0, none⟩ (.slice FA os.length fc)).setCell ⟨w.heap.size + 1 + 1, 0, none⟩ (.bool true)) :=
      ⟨fun _ => ⟨FA, fc, os, rfl, ownsRow_mono (ownsRow_setCell_below (ownsRow_setCell_below ho (a := ⟨w.heap.size + 1, 0, none⟩) (by simp only; omega) _) (a := ⟨w.heap.size + 1 + 1, 0, none⟩) (by simp only; omega) _) (by omega), fun f hf => (((hbo f hf).setN (by omega) _).setN (by omega) _).more (by omega), hk (by first | rfl | trivial)⟩, (fun h => by cases h),
        below_setN (b := w.heap.size + 1 + 1) (o := 0) (below_setN (b := w.heap.size + 1) (o := 0) hb (by omega) (.slice FA os.length fc)) (by omega) (.bool true)⟩
    exact bodyPost_ret (v := .tuple #[.slice FA os.length fc, .bool true]) (by simp [results, Tryz.results13, go_sem, k1, k2]) rfl hF
end Go.Proofs.YtkpcepdalegmmaaGreatDoor

/-! Frames: bytes that end within the last frame are no stream. -/
namespace Go.Proofs.YtkpcepdalegmmaaGreatDoor
open Go.RowKit

theorem encs_cons (f : Fr) (l : List Fr) (p : List UInt8) : encs (f :: l) ++ p = encF f ++ (encs l ++ p) := by simp [encs]

theorem part (l : List Fr) (hw : ∀ f ∈ l, wfF f) :
    (∃ m r, l = m ++ r ∧ m ≠ [] ∧ ∀ p, Msgs (encs r ++ p) true (encs l ++ p) m true) ∨ (∀ f p, wfF f → CutOf f p → ∀ rest, ∃ m, Msgs rest true (encs l ++ p) m false) := by
  induction l with
  | nil => exact .inr fun f p hf hc rest => ⟨[], Msgs.cut f _ hf (by simpa [encs] using hc)⟩
  | cons f l ih =>
    have hf := hw f (List.mem_cons_self ..)
    cases hm : f.more
    · refine .inl ⟨[f], l, rfl, by simp, fun p => ?_⟩
      rw [encs_cons]
      refine Msgs.step f _ [] true hf ?_
      rw [hm]
      exact Msgs.done
    · rcases ih (fun x hx => hw x (List.mem_cons_of_mem _ hx)) with ⟨m, r, rfl, _, h⟩ | h
      · refine .inl ⟨f :: m, r, rfl, by simp, fun p => ?_⟩
        rw [encs_cons]
        refine Msgs.step f _ m true hf ?_
        rw [hm]
        exact h p
      · refine .inr fun g p hg hc rest => ?_
        obtain ⟨m, h2⟩ := h g p hg hc rest
        refine ⟨f :: m, ?_⟩
        rw [encs_cons]
        refine Msgs.step f _ m false hf ?_
        rw [hm]
        exact h2

theorem stream_cut (f : Fr) (p : List UInt8) (hf : wfF f) (hc : CutOf f p) (hp : p ≠ []) : ∀ (k : Nat) (l : List Fr), l.length ≤ k → (∀ x ∈ l, wfF x) → ∃ ms, Stream (encs l ++ p) ms false := by
  intro k
  induction k with
  | zero =>
    intro l hl hw
    have : l = [] := List.eq_nil_of_length_eq_zero (by omega)
    subst this
    exact ⟨[], Stream.bad _ [] [] (by simp [encs, hp]) (Msgs.cut f _ hf (by simpa [encs] using hc))⟩
  | succ k ih =>
    intro l hl hw
    rcases part l hw with ⟨m, r, rfl, hm, h⟩ | h
    · have hml : 0 < m.length := List.length_pos_iff.2 hm
      rw [List.length_append] at hl
      obtain ⟨ms, hs⟩ := ih r (by omega) (fun x hx => hw x (List.mem_append_right _ hx))
      exact ⟨m :: ms, Stream.msg _ _ _ _ _ (h p) hs⟩
    · obtain ⟨m, h2⟩ := h f p hf hc []
      exact ⟨[], Stream.bad _ [] m (by simp [hp]) h2⟩

/-- The bytes of frames, n of the last frame's bytes struck. -/
theorem cut_bytes (l : List Fr) (f : Fr) (n : Nat) (h1 : 1 ≤ n) (h2 : n < (encF f).length) :
    (encs (l ++ [f])).take ((encs (l ++ [f])).length - n) = encs l ++ (encF f).take ((encF f).length - n) ∧ (encF f).take ((encF f).length - n) ≠ [] ∧ CutOf f ((encF f).take ((encF f).length - n)) := by
  have e : encs (l ++ [f]) = encs l ++ encF f := by simp [encs]
  refine ⟨?_, ?_, ?_, ?_⟩
  · rw [e, List.length_append, List.take_append, List.take_of_length_le (by omega)]
    congr 2
    omega
  · intro h
    have := congrArg List.length h
    rw [List.length_take] at this
    simp at this
    omega
  · rw [List.length_take]
    omega
  · rw [List.length_take, Nat.min_eq_left (by omega)]
end Go.Proofs.YtkpcepdalegmmaaGreatDoor

/-! laws.FnFramesCut: the walk. -/
namespace Go.Proofs.YtkpcepdalegmmaaGreatDoor
open Go.RowKit

/-- 's[k:]' of whatever slice. -/
def cutT (A : Option Addr) (c k size : Nat) : Option Addr := if c = k then A else A.map (·.add (k * size))
theorem run_sliceT_lo {t e : TypeId} {size bytes : Nat} (he : Elem t e size bytes) (A : Option Addr) (n c lo : Nat) (h1 : lo ≤ n) (w : World) :
    (Instr.slice t (.slice A n c) (some (.int .i64 lo)) none none).run Tryz.prog w = .ok (.slice (cutT A c lo size) (n - lo) (c - lo)) w := by
  obtain ⟨z, hi, hz⟩ := he.i
  obtain ⟨i, hi, hz0, hz1, hz2⟩ := info_parts hi
  simp [Instr.slice, run_underlying he.u, Instr.sliceBounds, Instr.sliceBound, asIntOf, sizeOf, typeInfo, hi, hz1, h1, cutT]
theorem cellsOf_drop (fs : List Fr) (k : Nat) : (cellsOf fs).drop (k * 3) = cellsOf (fs.drop k) := by
  induction k generalizing fs with
  | zero => simp
  | succ k ih =>
    cases fs with
    | nil => simp [cellsOf]
    | cons f r =>
      have e : (k + 1) * 3 = k * 3 + 3 := by omega
      rw [e, List.drop_succ_cons, ← ih r]
      rfl
theorem FrS.cut {w : World} {B n c k : Nat} {A : Option Addr} {fs : List Fr} (h : FrS w B A n fs) (hk : k ≤ n) (hc : n ≤ c) : FrS w B (cutT A c k 3) (n - k) (fs.drop k) :=
  ⟨by have := h.1.cut hk hc; rw [cellsOf_drop] at this; exact this, fun f hf => h.2 f (List.mem_of_mem_drop hf)⟩

theorem run_small {v : Bool} {fs : List Fr} (h : goodRun v fs = true) : ∀ f ∈ fs, f.n ≤ 1000 := by
  induction fs generalizing v with
  | nil => exact fun f hf => by cases hf
  | cons f r ih =>
    simp only [goodRun, Bool.and_eq_true] at h
    intro x hx
    rcases List.mem_cons.1 hx with rfl | h1
    · by_cases hb : 1000 < x.n
      · rw [badF_big hb] at h
        simp at h
      · omega
    · exact ih h.2 x h1
theorem proper_parts {fs : List Fr} (h : proper fs = true) : (∀ f ∈ fs, f.n ≤ 1000) ∧ fs.length ≤ 20 := by
  simp only [proper, Bool.and_eq_true, decide_eq_true_eq] at h
  exact ⟨run_small h.1, h.2⟩
theorem fits_parts {n : Nat} {fs : List Fr} (h : (decide (n ≤ 2147483647) && fs.all small) = true) : n ≤ 2147483647 ∧ ∀ f ∈ fs, f.n ≤ 2147483647 := by
  simp only [Bool.and_eq_true, decide_eq_true_eq, List.all_eq_true, small] at h
  exact h
theorem FrS.of_own {w : World} {base n c : Nat} {A : Option Addr} {fs : List Fr} {t : TypeId} (h : w.ownsRow base t 3 (.slice A n c) n (cellsOf fs)) (hb : Bodies w w.heap.size fs) : FrS w w.heap.size A n fs ∧ n ≤ c := by
  refine ⟨⟨Reads.of_own h, hb⟩, ?_⟩
  rcases h.2 with ⟨hv, rfl⟩ | ⟨g, cap, cur, hv, _, _, r⟩
  · exact Nat.zero_le _
  · injection hv with _ _ hc
    rw [hc]
    exact r.1

theorem encF_le {f : Fr} (h : wfF f) : (encF f).length ≤ 1009 := by
  have h1 := h.1
  have h2 := h.2
  by_cases hl : 255 < f.n
  · rw [encF_long hl]; simp [seven]; omega
  · rw [encF_short hl]; simp; omega
theorem encs_le {fs : List Fr} (h : ∀ f ∈ fs, wfF f) : (encs fs).length ≤ 1009 * fs.length := by
  induction fs with
  | nil => simp [encs]
  | cons f r ih =>
    have h1 := encF_le (h f (List.mem_cons_self ..))
    have h2 := ih fun x hx => h x (List.mem_cons_of_mem _ hx)
    have e : encs (f :: r) = encF f ++ encs r := by simp [encs]
    rw [e, List.length_append, List.length_cons]
    omega
theorem last_of {n : Nat} {fs : List Fr} (hl : fs.length = n) (h0 : 0 < n) : ∃ f, fs = fs.take (n - 1) ++ [f] ∧ fs.drop (n - 1) = [f] := by
  have h1 : n - 1 < fs.length := by omega
  have e : fs.drop (n - 1) = [fs[n - 1]] := by
    rw [List.drop_eq_getElem_cons h1, List.drop_eq_nil_of_le (by omega)]
  exact ⟨_, by rw [← e, List.take_append_drop], e⟩
theorem cut_le {n k n3 : Nat} {fs : List Fr} (hl : fs.length = n) (h0 : 0 < n) (h3 : (encs (fs.drop (n - 1))).length = n3) (hk : k < n3) : k ≤ (encs fs).length := by
  obtain ⟨f, e1, e2⟩ := last_of hl h0
  rw [e2] at h3
  have e : encs fs = encs (fs.take (n - 1)) ++ encs [f] := by
    conv => lhs; rw [e1]
    simp [encs]
  rw [e, List.length_append]
  omega
theorem cut_stream {n k n3 : Nat} {fs : List Fr} (hl : fs.length = n) (h0 : 0 < n) (h1 : 1 ≤ k) (h3 : (encs (fs.drop (n - 1))).length = n3) (hk : k < n3) (hw : ∀ f ∈ fs, wfF f) : ∃ ms, Stream ((encs fs).take ((encs fs).length - k)) ms false := by
  obtain ⟨f, e1, e2⟩ := last_of hl h0
  rw [e2] at h3
  have hk2 : k < (encF f).length := by rw [← h3] at hk; simpa [encs] using hk
  obtain ⟨c1, c2, c3⟩ := cut_bytes (fs.take (n - 1)) f k h1 hk2
  rw [← e1] at c1
  rw [c1]
  have hwf : wfF f := hw f (by rw [e1]; simp)
  exact stream_cut f _ hwf c3 c2 _ _ (Nat.le_refl _) (fun x hx => hw x (List.mem_of_mem_take hx))

section
variable (A : Option Addr) (n c : Nat) (fs : List Fr) (N : Int) (w : World)
end
end Go.Proofs.YtkpcepdalegmmaaGreatDoor

/-! Frames: impl.sent. -/
namespace Go.Proofs.YtkpcepdalegmmaaGreatDoor
open Go.RowKit

/-- Where 'sent' stands. -/
structure SentSt (w : World) (p cn on oc : Nat) (ob : List UInt8) (OA : Option Addr) (wr : World) : Prop where
  pipe : Blk wr p 36 #[.slice none 0 0, .slice OA on oc]
  own : OB wr (cn + 1) OA on oc ob
  conn : IsConn wr cn p
  pc : w.heap.size ≤ p ∧ p < cn
  ap : Below w.heap.size w wr
section
variable {w wr : World} {p cn on oc : Nat} {ob : List UInt8} {OA : Option Addr}
theorem SentSt.below_ (h : SentSt w p cn on oc ob OA wr) {w2 : World} (hb : Below wr.heap.size wr w2) : SentSt w p cn on oc ob OA w2 :=
  ⟨h.pipe.after hb (Nat.le_refl _), h.own.below_ hb, h.conn.after hb (Nat.le_refl _), h.pc, below_seq h.ap hb h.ap.size⟩
theorem SentSt.far (h : SentSt w p cn on oc ob OA wr) {k : Nat} (hk : wr.heap.size ≤ k) : k ∉ sendBlocks p OA := by
  have := h.pipe.lt
  intro hm
  simp only [sendBlocks, List.mem_cons, Option.mem_toList, Option.map_eq_some_iff] at hm
  rcases hm with rfl | ⟨ad, e, rfl⟩
  · omega
  · have := (h.own.block e).2
    omega
theorem SentSt.low (h : SentSt w p cn on oc ob OA wr) : ∀ k ∈ sendBlocks p OA, w.heap.size ≤ k ∧ k ≠ cn := by
  have h1 := h.pc
  have h2 := h.conn.lt
  intro k hm
  simp only [sendBlocks, List.mem_cons, Option.mem_toList, Option.map_eq_some_iff] at hm
  rcases hm with rfl | ⟨ad, e, rfl⟩
  · omega
  · have := (h.own.block e).1
    omega
theorem SentSt.next (h : SentSt w p cn on oc ob OA wr) {w2 : World} {add : List UInt8} {e : Ending} (hs : Sent wr (cn + 1) p on (.slice none 0 0) OA ob add e w2) : ∃ OA' oc', SentSt w p cn (on + add.length) oc' (ob ++ add) OA' w2 := by
  obtain ⟨_, OA', on', oc', hp, ho, rfl, ha⟩ := hs
  exact ⟨OA', oc', hp, ho, h.conn.apart ha (fun hm => (h.low _ hm).2 rfl), h.pc, h.ap.trans (ha.below h.ap.size fun k hk => (h.low k hk).1)⟩
end

theorem Sent.ap {w w' : World} {base p on : Nat} {iv : Value} {OA : Option Addr} {ob add : List UInt8} {e : Ending} (h : Sent w base p on iv OA ob add e w') : Apart (sendBlocks p OA) w w' := by
  obtain ⟨_, _, _, _, _, _, _, h⟩ := h
  exact h

/-- What 'sent' answers. -/
def SentAll (w : World) (l : List UInt8) (e : Ending) (w' : World) : Prop :=
  ∃ A n c, e = .returned (.tuple #[.slice A n c, .nilIface]) ∧ OB w' w.heap.size A n c l ∧ Below w.heap.size w w'

set_option maxRecDepth 100000 in
set_option maxHeartbeats 8000000 in
theorem sent (A : Option Addr) (n c : Nat) (fs : List Fr) (w : World) (hr : FrS w w.heap.size A n fs) (hn : n ≤ 20) (hb : ∀ f ∈ fs, f.n ≤ 1000) :
    Calls Tryz.prog 21 #[.slice A n c] w (SentAll w (encs fs)) := by
  go_enter Tryz.func21, Tryz.ntmps21
  go_wp2_with fail
  refine (ZZNull _).mono ?_
  rintro e w2 ⟨rfl, rfl⟩
  go_wp2_with fail
  refine (ZZConn w.heap.size _).mono ?_
  rintro e w2 ⟨cn, rfl, hcn, hconn, hb2⟩
  rw [World.size_alloc] at hcn
  have hbA : Below w.heap.size w w2 := below_new hb2
  have hp := (Blk.new w 36 #[.slice none 0 0, .slice none 0 0]).after hb2 (Nat.le_refl _)
  have hS : SentSt w w.heap.size cn 0 0 [] none w2 := ⟨hp, OB.nil_ _ _, hconn, ⟨Nat.le_refl _, hcn⟩, hbA⟩
  have hrw := hr.after hbA
  have HS0 := Lib.hid hS
  have HR := Lib.hid hr
  have HB := Lib.hid hb
  obtain ⟨p, hpe⟩ : ∃ p, p = w.heap.size := ⟨_, rfl⟩
  rw [← hpe] at HS0 ⊢
  clear hS hconn hb2 hbA hp hcn hr hrw hpe hb
  go_wp2_with fail
  go_loopw [16] (fun i wr => ∃ (k on oc : Nat) (OA : Option Addr), k ≤ n ∧ i = .int .i64 k ∧ on ≤ 1009 * k ∧ Hid (SentSt w p cn on oc (encs (fs.take k)) OA wr)) (fun i _ => n - (intOf i).toNat)
  case atStart => exact ⟨0, 0, 0, none, Nat.zero_le _, rfl, by omega, HS0⟩
  case round =>
    obtain ⟨k, on, oc, OA, hk, rfl, hon, hS⟩ := hrel
    by_cases hkn : k < n
    · obtain ⟨ad, f, rfl, hadb, hf, h1, h2, h3⟩ := (HR.out.after hS.out.ap).at_ hkn
      have hfm := List.mem_of_getElem? hf
      have hbod := (HR.out.after hS.out.ap).2 f hfm
      have hfn := HB.out f hfm
      have hfl : f.body.length = f.n := hbod.1.len
      obtain ⟨cmd, more, fA, fn, fc, body⟩ := f
      simp only at h1 h2 h3 hfn hbod hfl
      have henc : encs (fs.take (k + 1)) = encs (fs.take k) ++ (headF cmd more fn ++ body) := by
        have hk2 : k < fs.length := by rw [HR.out.len]; exact hkn
        rw [List.take_succ_eq_append_getElem hk2, (List.getElem?_eq_some_iff.1 hf).2]
        simp [encs, encF]
      have hlen : (headF cmd more fn ++ body).length ≤ 1009 := encF_le (f := ⟨cmd, more, fA, fn, fc, body⟩) ⟨hfl, hfn⟩
      have HE := Lib.hid henc
      have HL := Lib.hid hlen
      have HB2 := Lib.hid hbod
      clear henc hlen hf hfm hfl hbod
      go_wp2_with fail
      clear h1 h2 h3
      have hW : Below wr.heap.size wr (wr.alloc (.cells #[.bool cmd, .bool more, .slice fA fn fc] 48)) := (Below.refl _ wr).alloc (Nat.le_refl _) _
      have hH := Blk.new wr 48 #[.bool cmd, .bool more, .slice fA fn fc]
      have hrb := HB2.out.1.after hW
      have hS2 := Lib.hid (hS.out.below_ hW)
      generalize wr.alloc (.cells #[.bool cmd, .bool more, .slice fA fn fc] 48) = W at *
      have S_of : ∀ V, Below W.heap.size W V → V.cell? ⟨wr.heap.size, 0, none⟩ = some (.bool cmd) ∧ V.cell? ⟨wr.heap.size, 2, none⟩ = some (.slice fA fn fc) ∧ V.cell? ⟨wr.heap.size, 1, none⟩ = some (.bool more) := fun V hV =>
        ⟨(hH.after hV (Nat.le_refl _)).cell 0, (hH.after hV (Nat.le_refl _)).cell 2, (hH.after hV (Nat.le_refl _)).cell 1⟩
      have hHW := hH.lt
      have hwH := Lib.hid (hS.out.far (Nat.le_refl wr.heap.size))
      clear hW hH HB2
      go_region_held3 (fun V => V.cell? ⟨wr.heap.size, 0, none⟩ = some (.bool cmd) ∧ V.cell? ⟨wr.heap.size, 2, none⟩ = some (.slice fA fn fc) ∧ V.cell? ⟨wr.heap.size, 1, none⟩ = some (.bool more))
        ((first | exact S_of _ (Below.refl _ _).drew | exact S_of _ ((Below.refl _ _).drew.alloc (Nat.le_refl _) _) | exact S_of _ (by assumption) | assumption))
        (first
          | (with_reducible refine st_at 26 ?_
             refine st_appB rfl (.tmp 23) (.tmp 25) 23 rfl W.heap.size _ 0 0 [] rfl (OB.lit0 _ _ (Nat.le_refl _)) _ _ _ rfl (srcB (hrb.drew.new _)) fn (Nat.zero_add _) (by omega) (by simp) ?_
             intro A5 c5 w5 ho5 hg5 ha5
             have hb5 : Below W.heap.size W w5 := ((Below.refl _ _).drew.alloc (Nat.le_refl _) _).grown hg5 (by simp) (fun k hk => by cases hk; exact Nat.le_refl _))
          | (go_at_call 38
             refine (ZZSend cmd more cn p (cn + 1) on oc fn c5 (.slice none 0 0) OA A5 (encs (fs.take k)) body w5 (hS2.out.below_ hb5).pipe (hS2.out.below_ hb5).own ho5.rb hfn (by omega) (hS2.out.below_ hb5).conn hS2.out.pc.2 (by omega) (hS2.out.below_ hb5).conn.lt
               (fun ad e => by have h1 := ho5.block e; have h2 := hS2.out.far h1.1; simp only [sendBlocks, List.mem_cons, Option.mem_toList, not_or] at h2; exact ⟨h2.1, fun e2 => h2.2 e2.symm⟩)).mono ?_
             intro e w6 hs6
             obtain rfl := hs6.1
             have HS6 := Lib.hid ((hS2.out.below_ hb5).next hs6)
             have hap := hs6.ap
             have s6 : w6.cell? ⟨wr.heap.size, 0, none⟩ = some (.bool cmd) ∧ w6.cell? ⟨wr.heap.size, 2, none⟩ = some (.slice fA fn fc) ∧ w6.cell? ⟨wr.heap.size, 1, none⟩ = some (.bool more) := by
               have s5 := S_of w5 hb5
               have hlt : wr.heap.size < w5.heap.size := Nat.lt_of_lt_of_le hHW hb5.size
               have hn := hwH.out
               exact ⟨(hap.cell (p := ⟨wr.heap.size, 0, none⟩) hlt hn).trans s5.1, (hap.cell (p := ⟨wr.heap.size, 2, none⟩) hlt hn).trans s5.2.1, (hap.cell (p := ⟨wr.heap.size, 1, none⟩) hlt hn).trans s5.2.2⟩
             clear hs6 hap))
      rename_i aK _
      refine aK _ _ ?_
      clear S_of s6 ho5 hg5 ha5 hb5 hrb hHW hS hS2
      go_wp2_with fail
      go_roundw
      case rel =>
        obtain ⟨OA', oc', h6⟩ := HS6.out
        exact ⟨k + 1, on + (headF cmd more fn ++ body).length, oc', OA', by omega, by go_num, by have := HL.out; omega, Lib.hid (by rw [HE.out]; exact h6)⟩
      case measure => simp [intOf]; omega
    · have hkn' : k = n := by omega
      have hfull : fs.take k = fs := List.take_of_length_le (by rw [HR.out.len]; omega)
      rw [hfull] at hS
      subst hkn'
      have c1 := hS.out.pipe.cell 1
      simp only [List.getElem?_toArray, List.getElem?_cons_zero, List.getElem?_cons_succ] at c1
      clear hfull
      go_wp2_with fail
      go_ret2
      have h6 := hS.out
      exact ⟨OA, on, oc, rfl, h6.own.more (by have := h6.pc; omega), h6.ap⟩
end Go.Proofs.YtkpcepdalegmmaaGreatDoor
