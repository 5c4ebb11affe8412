/- Frames: impl.ParseFrames. -/
import Derived.Test.YtkpcepdalegmmaaPf2
import Derived.Test.YtkpcepdalegmmaaQuiet
namespace Go.Proofs.Ytkpcepdalegmmaa
open Go.RowKit

/-- What ParseFrames answers. -/
def ParsedAll (w : World) (ms : List (List Fr)) (ok : Bool) (e : Ending) (w' : World) : Prop :=
  (ok = true → ∃ (FA : Option Addr) (fc : Nat) (os : List Fr), e = .returned (.tuple #[.slice FA os.length fc, .bool true]) ∧ w'.ownsRow w.heap.size 71 3 (.slice FA os.length fc) os.length (cellsOf os) ∧ (∀ f ∈ os, OB w' w.heap.size f.A f.n f.c f.body) ∧ os.map keyOf = keysAll ms) ∧
  (ok = false → e = .returned (.tuple #[.slice none 0 0, .bool false])) ∧ Below w.heap.size w w'

set_option maxRecDepth 100000 in
theorem ParseFrames (A : Option Addr) (n c : Nat) (l : List UInt8) (ms : List (List Fr)) (ok : Bool) (w : World) (hr : RB w w.heap.size A n l) (hn : n ≤ 2147483647) (hst : Stream l ms ok) :
    Calls Try.prog 22 #[.slice A n c] w (ParsedAll w ms ok) := by
  have hmf : ∀ (fn : Fn) (first cap : Array Value) (w : World), (Instr.makeFunc fn first cap).run Try.prog w = .ok (.func fn first cap) w := fun _ _ _ _ => rfl
  go_enter Try.func22, Try.ntmps22
  go_wp2_with fail
  refine (quietly_any 40 _ _ (fun q w' => q = true ∧ ∃ (FA : Option Addr) (fc : Nat) (os : List Fr), Blk w' (w.heap.size + 1) 37 #[.slice FA os.length fc] ∧ Blk w' (w.heap.size + 1 + 1) 4 #[.bool ok] ∧ w'.ownsRow (w.heap.size + 4) 71 3 (.slice FA os.length fc) os.length (cellsOf os) ∧
    (∀ f ∈ os, OB w' (w.heap.size + 4) f.A f.n f.c f.body) ∧ (ok = true → os.map keyOf = keysAll ms) ∧ Below w.heap.size w w') (fun W => rfl) ?_).mono ?_
  · have b0 := (((Blk.new w 22 #[.slice A n c]).alloc (.cells #[.slice none 0 0] 37)).alloc (.cells #[.bool false] 4)).alloc (.cells #[.bool false] 4)
    have b1 := ((Blk.new (w.alloc (.cells #[.slice A n c] 22)) 37 #[.slice none 0 0]).alloc (.cells #[.bool false] 4)).alloc (.cells #[.bool false] 4)
    have b2 := (Blk.new ((w.alloc (.cells #[.slice A n c] 22)).alloc (.cells #[.slice none 0 0] 37)) 4 #[.bool false]).alloc (.cells #[.bool false] 4)
    have b3 := Blk.new (((w.alloc (.cells #[.slice A n c] 22)).alloc (.cells #[.slice none 0 0] 37)).alloc (.cells #[.bool false] 4)) 4 #[.bool false]
    have hr' := ((((hr.new (.cells #[.slice A n c] 22)).new (.cells #[.slice none 0 0] 37)).new (.cells #[.bool false] 4)).new (.cells #[.bool false] 4))
    have hbA : Below w.heap.size w ((((w.alloc (.cells #[.slice A n c] 22)).alloc (.cells #[.slice none 0 0] 37)).alloc (.cells #[.bool false] 4)).alloc (.cells #[.bool false] 4)) := (((((Below.refl _ _).alloc (by first | exact Nat.le_refl _ | (simp only [World.size_alloc]; omega)) (.cells #[.slice A n c] 22)).alloc (by first | exact Nat.le_refl _ | (simp only [World.size_alloc]; omega)) (.cells #[.slice none 0 0] 37)).alloc (by first | exact Nat.le_refl _ | (simp only [World.size_alloc]; omega)) (.cells #[.bool false] 4)).alloc (by first | exact Nat.le_refl _ | (simp only [World.size_alloc]; omega)) (.cells #[.bool false] 4))
    have hsA : ((((w.alloc (.cells #[.slice A n c] 22)).alloc (.cells #[.slice none 0 0] 37)).alloc (.cells #[.bool false] 4)).alloc (.cells #[.bool false] 4)).heap.size = w.heap.size + 4 := by simp
    generalize ((((w.alloc (.cells #[.slice A n c] 22)).alloc (.cells #[.slice none 0 0] 37)).alloc (.cells #[.bool false] 4)).alloc (.cells #[.bool false] 4)) = W at *
    simp only [World.size_alloc] at *
    refine (ParseFrames_f w.heap.size (w.heap.size + 1) (w.heap.size + 1 + 1) A n c l ms ok W hr' hn b0 b1 b2 hst).mono ?_
    rintro e w' ⟨rfl, FA, fc, os, t1, t2, ho, hbo, hk, ha⟩
    have t3 := ha.blk b3 (by simp; omega)
    have hW : W.heap.size = w.heap.size + 4 := by omega
    rw [hW] at ho hbo
    exact ⟨t3.cell0, t3.frozen 0, .inl ⟨rfl, rfl, FA, fc, os, t1, t2, ho, hbo, hk, hbA.trans (ha.below (by omega) (by simp; omega))⟩⟩
  rintro e w' ⟨q, w1, rfl, ⟨rfl, FA, fc, os, t1, t2, ho, hbo, hk, hb⟩, rfl⟩
  simp only [World.size_alloc]
  have t1 := t1.farN (b := w.heap.size + 1 + 1 + 1) (o := 0) (by omega) (.bool true)
  have t2 := t2.farN (b := w.heap.size + 1 + 1 + 1) (o := 0) (by omega) (.bool true)
  have ho := ownsRow_setCell_below ho (a := ⟨w.heap.size + 1 + 1 + 1, 0, none⟩) (by simp only; omega) (.bool true)
  have hbo : ∀ f ∈ os, OB (w1.setCell ⟨w.heap.size + 1 + 1 + 1, 0, none⟩ (.bool true)) (w.heap.size + 4) f.A f.n f.c f.body := fun f hf => (hbo f hf).setN (by omega) _
  have hb := below_setN (b := w.heap.size + 1 + 1 + 1) (o := 0) hb (by omega) (.bool true)
  generalize w1.setCell ⟨w.heap.size + 1 + 1 + 1, 0, none⟩ (.bool true) = W at *
  have c1 := t1.cell0
  have c2 := t2.cell0
  have f1 := t1.frozen 0
  have f2 := t2.frozen 0
  have HT := Lib.hid (⟨t1, t2, ho, hbo, hk, hb⟩ : _ ∧ _ ∧ _ ∧ _ ∧ _ ∧ _)
  clear hr t1 t2 ho hbo hk hb hmf hst
  cases ok
  · go_wp2_with fail
    obtain ⟨t1, t2, ho, hbo, hk, hb⟩ := HT.out
    have k1 := ((t1.setN (.slice none 0 0)).farN (b := w.heap.size + 1 + 1) (o := 0) (by omega) (.bool false)).cell0
    have k2 := ((t2.farN (b := w.heap.size + 1) (o := 0) (by omega) (.slice none 0 0)).setN (.bool false)).cell0
    have hF : ParsedAll w ms false (.returned (.tuple #[.slice none 0 0, .bool false])) _ := ⟨(fun h => by cases h), fun _ => rfl, below_setN (b := w.heap.size + 1 + 1) (o := 0) (below_setN (b := w.heap.size + 1) (o := 0) hb (by omega) (.slice none 0 0)) (by omega) (.bool false)⟩
    exact bodyPost_ret (v := .tuple #[.slice none 0 0, .bool false]) (by simp [results, Try.results22, go_sem, k1, k2]) rfl hF
  · go_wp2_with fail
    obtain ⟨t1, t2, ho, hbo, hk, hb⟩ := HT.out
    have k1 := ((t1.setN (.slice FA os.length fc)).farN (b := w.heap.size + 1 + 1) (o := 0) (by omega) (.bool true)).cell0
    have k2 := ((t2.farN (b := w.heap.size + 1) (o := 0) (by omega) (.slice FA os.length fc)).setN (.bool true)).cell0
    have hF : ParsedAll w ms true (.returned (.tuple #[.slice FA os.length fc, .bool true])) ((W.setCell ⟨w.heap.size + 1, 0, none⟩ (.slice FA os.length fc)).setCell ⟨w.heap.size + 1 + 1, 0, none⟩ (.bool true)) :=
      ⟨fun _ => ⟨FA, fc, os, rfl, ownsRow_mono (ownsRow_setCell_below (ownsRow_setCell_below ho (a := ⟨w.heap.size + 1, 0, none⟩) (by simp only; omega) _) (a := ⟨w.heap.size + 1 + 1, 0, none⟩) (by simp only; omega) _) (by omega), fun f hf => (((hbo f hf).setN (by omega) _).setN (by omega) _).more (by omega), hk (by first | rfl | trivial)⟩, (fun h => by cases h),
        below_setN (b := w.heap.size + 1 + 1) (o := 0) (below_setN (b := w.heap.size + 1) (o := 0) hb (by omega) (.slice FA os.length fc)) (by omega) (.bool true)⟩
    exact bodyPost_ret (v := .tuple #[.slice FA os.length fc, .bool true]) (by simp [results, Try.results22, go_sem, k1, k2]) rfl hF
end Go.Proofs.Ytkpcepdalegmmaa
