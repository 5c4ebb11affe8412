/- Greetings: (*greeting).unmarshal. -/
import Derived.Test.YtkpcepdalegmmaaGreet1
import Derived.Test.YtkpcepdalegmmaaSlice
namespace Go.Proofs.Ytkpcepdalegmmaa
open Go.RowKit

theorem cell_far {w : World} {d i : Nat} {v : Option Value} (h : w.cell? ⟨d, i, none⟩ = v) {g : Nat} (hne : ¬ d = g) (o : Nat) (u : Value) : (w.setCell ⟨g, o, none⟩ u).cell? ⟨d, i, none⟩ = v :=
  (World.cell?_setCell_other w ⟨g, o, none⟩ ⟨d, i, none⟩ u (fun e => hne (by injection e with e1; exact e1.symm))).trans h

set_option maxRecDepth 100000 in
theorem unmarshal_g (g d : Nat) (T : TypeId) (l : List UInt8) (hl : l.length = 64) (w : World) (hg : BB w g 105 z64) (hd : BB w d T l) (hgd : g ≠ d) :
    Calls Try.prog 70 #[.pointer (some ⟨g, 0, none⟩), .slice (some ⟨d, 0, none⟩) 64 64] w fun e w' => e = .returned (.tuple #[]) ∧ BB w' g 105 (marshalL l) ∧ Apart [g] w w' ∧ w'.heap.size = w.heap.size := by
  obtain ⟨x0, e0⟩ : ∃ x, x = l.getD 0 0 := ⟨_, rfl⟩
  obtain ⟨x9, e9⟩ : ∃ x, x = l.getD 9 0 := ⟨_, rfl⟩
  obtain ⟨x10, e10⟩ : ∃ x, x = l.getD 10 0 := ⟨_, rfl⟩
  obtain ⟨x11, e11⟩ : ∃ x, x = l.getD 11 0 := ⟨_, rfl⟩
  obtain ⟨x32, e32⟩ : ∃ x, x = l.getD 32 0 := ⟨_, rfl⟩
  have HM : Hid (marshalL l = (splice ((((z64.set 0 x0).set 9 x9).set 10 x10).set 11 x11) 12 ((l.drop 12).take 20)).set 32 x32) := (by unfold marshalL; rw [e0, e9, e10, e11, e32] : marshalL l = _)
  have Q : ∀ i, i < 64 → w.cell? ⟨d, i, none⟩ = some (.int .u8 ((l.getD i 0).toNat : Int)) := fun i hi => hd.cell (by omega)
  have q0 := Q 0 (by omega)
  rw [← e0] at q0
  have q9 := Q 9 (by omega)
  rw [← e9] at q9
  have q10 := Q 10 (by omega)
  rw [← e10] at q10
  have q11 := Q 11 (by omega)
  rw [← e11] at q11
  have q32 := Q 32 (by omega)
  rw [← e32] at q32
  have E32 := Lib.hid e32
  clear Q e0 e9 e10 e11 e32
  have HL := Lib.hid hl
  clear hl
  have c0 := hg.cell (i := 0) (by decide)
  have f0 := hg.frozen 0
  have c9 := hg.cell (i := 9) (by decide)
  have f9 := hg.frozen 9
  have c10 := hg.cell (i := 10) (by decide)
  have f10 := hg.frozen 10
  have c11 := hg.cell (i := 11) (by decide)
  have f11 := hg.frozen 11
  have hdg : ¬ d = g := fun e => hgd e.symm
  have hs0 : ∀ W, (Instr.slice 22 (.slice (some ⟨d, 0, none⟩) 64 64) none (some (.int .i64 64)) none).run Try.prog W = .ok (.slice (some ⟨d, 0, none⟩) 64 64) W := fun W => run_slice_hi (some ⟨d, 0, none⟩) 64 64 W 64 (Nat.le_refl _)
  have hs1 : ∀ W, (Instr.slice 22 (.slice (some ⟨d, 0, none⟩) 64 64) (some (.int .i64 12)) (some (.int .i64 32)) none).run Try.prog W = .ok (.slice (some ⟨d, 12, none⟩) 20 52) W := fun W => run_slice_lh (some ⟨d, 0, none⟩) 64 64 W 12 32 (by omega) (by omega)
  go_enter Try.func70, Try.ntmps70
  go_wp2_with fail
  have hb2 := (hg.set 0 x0).set 9 x9
  have hd2 := (hd.farN (b := g) (o := 0) hdg (.int .u8 (x0.toNat : Int))).farN (b := g) (o := 9) hdg (.int .u8 (x9.toNat : Int))
  have hap2 := ((Apart.refl [g] w).setN (g := g) (o := 0) (.inl (by simp)) (.int .u8 (x0.toNat : Int))).setN (g := g) (o := 9) (.inl (by simp)) (.int .u8 (x9.toNat : Int))
  have hsz2 : ((w.setCell ⟨g, 0, none⟩ (.int .u8 (x0.toNat : Int))).setCell ⟨g, 9, none⟩ (.int .u8 (x9.toNat : Int))).heap.size = w.heap.size := by simp
  have q10' := (hap2.cell (p := ⟨d, 10, none⟩) hd.lt (by simpa using hdg)).trans q10
  generalize ((w.setCell ⟨g, 0, none⟩ (.int .u8 (x0.toNat : Int))).setCell ⟨g, 9, none⟩ (.int .u8 (x9.toNat : Int))) = W at *
  have c10' := hb2.cell (i := 10) (by simp [z64])
  have f10' := hb2.frozen 10
  have q10s := cell_far q10' hdg 10 (.int .u8 (x10.toNat : Int))
  go_region_held3 (fun V => V.cell? ⟨d, 10, none⟩ = some (.int .u8 (x10.toNat : Int))) ((first | exact q10' | exact q10s)) (first | fail)
  rename_i aK _
  refine aK _ _ ?_
  have hb3 := (hb2.set 10 x10).drew
  have hd3 := (hd2.farN (b := g) (o := 10) hdg (.int .u8 (x10.toNat : Int))).drew
  have hap3 := (hap2.setN (g := g) (o := 10) (.inl (by simp)) (.int .u8 (x10.toNat : Int))).drew
  have hsz3 : (W.setCell ⟨g, 10, none⟩ (.int .u8 (x10.toNat : Int))).drew.heap.size = w.heap.size := by simpa using hsz2
  have q11' := (hap3.cell (p := ⟨d, 11, none⟩) hd.lt (by simpa using hdg)).trans q11
  generalize (W.setCell ⟨g, 10, none⟩ (.int .u8 (x10.toNat : Int))).drew = W3 at *
  have c11' := hb3.cell (i := 11) (by simp [z64])
  have f11' := hb3.frozen 11
  have q11s := cell_far q11' hdg 11 (.int .u8 (x11.toNat : Int))
  go_wp2_with fail
  go_region_held3 (fun V => V.cell? ⟨d, 11, none⟩ = some (.int .u8 (x11.toNat : Int))) ((first | exact q11' | exact q11s)) (first | fail)
  rename_i aK _
  refine aK _ _ ?_
  have hb4 := (hb3.set 11 x11).drew
  have hd4 := (hd3.farN (b := g) (o := 11) hdg (.int .u8 (x11.toNat : Int))).drew
  have hap4 := (hap3.setN (g := g) (o := 11) (.inl (by simp)) (.int .u8 (x11.toNat : Int))).drew
  have hsz4 : (W3.setCell ⟨g, 11, none⟩ (.int .u8 (x11.toNat : Int))).drew.heap.size = w.heap.size := by simpa using hsz3
  have q32' := (hap4.cell (p := ⟨d, 32, none⟩) hd.lt (by simpa using hdg)).trans q32
  generalize (W3.setCell ⟨g, 11, none⟩ (.int .u8 (x11.toNat : Int))).drew = W4 at *
  have hr4 := hd4.rb (o := 12) (n := 20) (by rw [HL.out]; decide)
  go_wp2_with fail
  go_region_held3 (fun _ => True) (trivial)
    (first
      | (with_reducible refine st_at 40 ?_
         refine st_copyB rfl (.tmp 37) (.tmp 39) 22 rfl g 12 20 20 105 _ 20 _ _ 20 rfl rfl hb4.drew (lenOf_slice _ _ _) rfl (first_slice hr4.drew _ (Nat.le_refl _)) (len20 HL.out) (fit64 _ _ _ _) ?_
         intro w5 hb5 ha5 hs5
         have a32 := (ha5.cell (p := ⟨d, 32, none⟩) hd4.lt (by simpa using hdg)).trans q32'
         have b32 := hb5.cell (i := 32) (at32 _ _ _ _ (len20 HL.out))
         have f32 := hb5.frozen 32))
  rename_i aK _
  refine aK _ _ ?_
  go_wp2_with fail
  refine bodyPost_end (results_none rfl _ _ _) rfl ?_
  refine ⟨rfl, ?_, (hap4.drew.trans ha5).setN (.inl (by simp)) _, ?_⟩
  · have hf := hb5.set 32 x32
    rw [List.take_take, Nat.min_self] at hf
    rw [HM.out]
    exact hf
  · rw [World.size_setCell]
    exact hs5.trans hsz4
end Go.Proofs.Ytkpcepdalegmmaa
