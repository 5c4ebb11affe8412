/- Parts of a proof, laid behind one another: Greetings: (*greeting).marshal, ZZGreeting. Greetings: (*greeting).unmarshal. Greetings: defaultVersion, (*greeting).validate, asBool. The pipe: (*ZZPipe).Read, (*ZZPipe).Write. -/
import Derived.Test.YtkpcepdalegmmaaGreatDoorM03
import Derived.Test.YtkpcepdalegmmaaGreatDoorM02
import Derived.Deep.QuietTactic
import Derived.BigQuiet
/-! Greetings: (*greeting).marshal, ZZGreeting. -/
namespace Go.Proofs.YtkpcepdalegmmaaGreatDoor
open Go.RowKit

def z64 : List UInt8 := List.replicate 64 0
theorem info_buf : (Tryz.prog.info? 115).map (fun i => (i.zero, i.size)) = some (some (.agg (bv z64).toArray), 64) := by kernel_rfl

/-- What marshal lays: the fields' bytes, the padding nought. -/
def marshalL (l : List UInt8) : List UInt8 :=
  (splice ((((z64.set 0 (l.getD 0 0)).set 9 (l.getD 9 0)).set 10 (l.getD 10 0)).set 11 (l.getD 11 0)) 12 ((l.drop 12).take 20)).set 32 (l.getD 32 0)

theorem len20 {l : List UInt8} (h : l.length = 64) : (((l.drop 12).take 20).take 20).length = 20 := by simp [h]
theorem fit64 (a b c d : UInt8) : 12 + 20 ≤ ((((z64.set 0 a).set 9 b).set 10 c).set 11 d).length := by simp [z64]
theorem at32 (a b c d : UInt8) {m : List UInt8} (h : m.length = 20) : 32 < (splice ((((z64.set 0 a).set 9 b).set 10 c).set 11 d) 12 m).length := by
  rw [splice_length (by rw [h]; exact fit64 a b c d)]; simp [z64]

set_option maxRecDepth 100000 in
theorem marshal (g : Nat) (l : List UInt8) (hl : l.length = 64) (w : World) (hg : BB w g 86 l) :
    Calls Tryz.prog 33 #[.pointer (some ⟨g, 0, none⟩)] w fun e w' => ∃ b, e = .returned (.slice (some ⟨b, 0, none⟩) 64 64) ∧ w.heap.size ≤ b ∧ BB w' b 115 (marshalL l) ∧ Below w.heap.size w w' := by
  obtain ⟨x0, e0⟩ : ∃ x, x = l.getD 0 0 := ⟨_, rfl⟩
  obtain ⟨x9, e9⟩ : ∃ x, x = l.getD 9 0 := ⟨_, rfl⟩
  obtain ⟨x10, e10⟩ : ∃ x, x = l.getD 10 0 := ⟨_, rfl⟩
  obtain ⟨x11, e11⟩ : ∃ x, x = l.getD 11 0 := ⟨_, rfl⟩
  obtain ⟨x32, e32⟩ : ∃ x, x = l.getD 32 0 := ⟨_, rfl⟩
  have HM : Hid (marshalL l = (splice ((((z64.set 0 x0).set 9 x9).set 10 x10).set 11 x11) 12 ((l.drop 12).take 20)).set 32 x32) := (by unfold marshalL; rw [e0, e9, e10, e11, e32] : marshalL l = _)
  have Q : ∀ i, i < 64 → w.cell? ⟨g, i, none⟩ = some (.int .u8 ((l.getD i 0).toNat : Int)) := fun i hi => hg.cell (by omega)
  have q0 := Q 0 (by omega)
  rw [← e0] at q0
  have q9 := Q 9 (by omega)
  rw [← e9] at q9
  have q10 := Q 10 (by omega)
  rw [← e10] at q10
  have q11 := Q 11 (by omega)
  rw [← e11] at q11
  have q32 := Q 32 (by omega)
  rw [← e32] at q32
  have E32 := Lib.hid e32
  clear Q e0 e9 e10 e11 e32
  have HL := Lib.hid hl
  clear hl
  have hgl := hg.lt
  have hne : ¬ w.heap.size = g := Nat.ne_of_gt hgl
  have hne' : ¬ g = w.heap.size := Nat.ne_of_lt hgl
  go_enter Tryz.func33, Tryz.ntmps33
  go_wp2_with (first
    | (with_reducible refine wpl_allocB (o := ⟨some 3, _, _, _, _, _⟩) rfl _ rfl z64 64 info_buf ?_
       intro w1 hb1 hbl1 hs1
       have a0 := (hbl1.cell (p := ⟨g, 0, none⟩) hgl).trans q0
       have a9 := (hbl1.cell (p := ⟨g, 9, none⟩) hgl).trans q9
       have a10 := (hbl1.cell (p := ⟨g, 10, none⟩) hgl).trans q10
       have a11 := (hbl1.cell (p := ⟨g, 11, none⟩) hgl).trans q11
       have a32 := (hbl1.cell (p := ⟨g, 32, none⟩) hgl).trans q32
       have b0 := hb1.cell (i := 0) (by decide)
       have f0 := hb1.frozen 0
       have b9 := hb1.cell (i := 9) (by decide)
       have f9 := hb1.frozen 9
       have b10 := hb1.cell (i := 10) (by decide)
       have f10 := hb1.frozen 10
       have b11 := hb1.cell (i := 11) (by decide)
       have f11 := hb1.frozen 11
       have b32 := hb1.cell (i := 32) (by decide)
       have f32 := hb1.frozen 32
       have hs1' := Lib.hid hs1
       clear hs1))
  have hb2 := (((hb1.set 0 x0).set 9 x9).set 10 x10).set 11 x11
  have hg2 := (((((hg.below hbl1 hgl).farN (b := w.heap.size) (o := 0) hne' (.int .u8 (x0.toNat : Int))).farN (b := w.heap.size) (o := 9) hne' (.int .u8 (x9.toNat : Int))).farN (b := w.heap.size) (o := 10) hne' (.int .u8 (x10.toNat : Int))).farN (b := w.heap.size) (o := 11) hne' (.int .u8 (x11.toNat : Int)))
  have a32' := hg2.cell (i := 32) (by rw [HL.out]; decide)
  have hbl2 := below_setN (o := 11) (below_setN (o := 10) (below_setN (o := 9) (below_setN (o := 0) hbl1 (Nat.le_refl _) (.int .u8 (x0.toNat : Int))) (Nat.le_refl _) (.int .u8 (x9.toNat : Int))) (Nat.le_refl _) (.int .u8 (x10.toNat : Int))) (Nat.le_refl _) (.int .u8 (x11.toNat : Int))
  have hr2 := hg2.rb (o := 12) (n := 20) (by rw [HL.out]; decide)
  have hs2 : ((((w1.setCell ⟨w.heap.size, 0, none⟩ (.int .u8 (x0.toNat : Int))).setCell ⟨w.heap.size, 9, none⟩ (.int .u8 (x9.toNat : Int))).setCell ⟨w.heap.size, 10, none⟩ (.int .u8 (x10.toNat : Int))).setCell ⟨w.heap.size, 11, none⟩ (.int .u8 (x11.toNat : Int))).heap.size = w1.heap.size := by simp
  generalize ((((w1.setCell ⟨w.heap.size, 0, none⟩ (.int .u8 (x0.toNat : Int))).setCell ⟨w.heap.size, 9, none⟩ (.int .u8 (x9.toNat : Int))).setCell ⟨w.heap.size, 10, none⟩ (.int .u8 (x10.toNat : Int))).setCell ⟨w.heap.size, 11, none⟩ (.int .u8 (x11.toNat : Int))) = W at *
  clear hb1 hs2
  go_region_held3 (fun _ => True) (trivial)
    (first
      | (with_reducible refine st_at 33 ?_
         refine st_copyB rfl (.tmp 28) (.tmp 32) 23 rfl w.heap.size 12 20 52 115 _ 20 _ _ 20 rfl rfl hb2.drew (lenOf_slice _ _ _) rfl (first_slice hr2.drew _ (Nat.le_refl _)) (len20 HL.out) (fit64 _ _ _ _) ?_
         intro w3 hb3 ha3 hs3
         have a32 := (ha3.cell (p := ⟨g, 32, none⟩) (show g < W.heap.size from hg2.lt) (by simpa using hne')).trans a32'
         have b32 := hb3.cell (i := 32) (at32 _ _ _ _ (len20 HL.out))
         have f32 := hb3.frozen 32
         have hs3' := Lib.hid hs3
         clear hs3))
  go_wp2_with fail
  go_ret
  refine ⟨w.heap.size, rfl, Nat.le_refl _, ?_, ?_⟩
  · have hf := hb3.set 32 (l[32]?.getD 0)
    rw [List.take_take, Nat.min_self] at hf
    rw [HM.out, E32.out, List.getD_eq_getElem?_getD]
    exact hf
  · exact below_setN (hbl2.drew.trans (ha3.below hbl2.size (by simp))) (Nat.le_refl _) _

/-- The first twelve bytes of a greeting. -/
def preB (a b : UInt8) : List UInt8 := [255, 0, 0, 0, 0, 0, 0, 0, 0, 127, a, b]
/-- A greeting's bytes: m are the mechanism's 20. -/
def greetM (a b : UInt8) (m : List UInt8) (s : UInt8) : List UInt8 := preB a b ++ (m ++ (s :: List.replicate 31 0))
/-- A mechanism's name with noughts up to 20 bytes. -/
def padTo (m : List UInt8) : List UInt8 := m ++ List.replicate (20 - m.length) 0
def boolB (b : Bool) : UInt8 := if b then 1 else 0

theorem padTo_length {m : List UInt8} (h : m.length ≤ 20) : (padTo m).length = 20 := by simp [padTo]; omega
theorem greetM_length {a b s : UInt8} {m : List UInt8} (h : m.length = 20) : (greetM a b m s).length = 64 := by simp [greetM, preB, h]
theorem pre_splice (a b : UInt8) (m : List UInt8) (h : m.length ≤ 20) : splice (preB a b ++ List.replicate 52 0) 12 m = greetM a b (padTo m) 0 := by
  unfold splice greetM padTo
  have h1 : (preB a b ++ List.replicate 52 0).take 12 = preB a b := List.take_left' (by simp [preB])
  have h2 : (preB a b ++ List.replicate 52 (0 : UInt8)).drop (12 + m.length) = List.replicate (52 - m.length) 0 := by
    rw [List.drop_append, List.drop_eq_nil_of_le (by simp [preB]), List.nil_append, List.drop_replicate]
    have e : 52 - (12 + m.length - (preB a b).length) = 52 - m.length := by
      show 52 - (12 + m.length - 12) = _
      omega
    rw [e]
  rw [h1, h2, List.append_assoc, List.append_assoc]
  have h3 : List.replicate (52 - m.length) (0 : UInt8) = List.replicate (20 - m.length) 0 ++ (0 :: List.replicate 31 0) := by
    rw [show (0 : UInt8) :: List.replicate 31 0 = List.replicate 32 0 from rfl, List.replicate_append_replicate]
    congr 1
    omega
  rw [h3]
theorem greetM_set {a b s t : UInt8} {m : List UInt8} (h : m.length = 20) : (greetM a b m s).set 32 t = greetM a b m t := by
  unfold greetM
  rw [List.set_append_right _ _ (by simp [preB]), List.set_append_right _ _ (by simp [preB, h])]
  simp [preB, h]
theorem greetM_get {a b s : UInt8} {m : List UInt8} (h : m.length = 20) : (greetM a b m s).getD 0 0 = 255 ∧ (greetM a b m s).getD 9 0 = 127 ∧ (greetM a b m s).getD 10 0 = a ∧ (greetM a b m s).getD 11 0 = b ∧
    (greetM a b m s).getD 32 0 = s ∧ ((greetM a b m s).drop 12).take 20 = m := by
  refine ⟨rfl, rfl, rfl, rfl, ?_, ?_⟩
  · unfold greetM
    rw [List.getD_eq_getElem?_getD, List.getElem?_append_right (by simp [preB]), List.getElem?_append_right (by simp [preB, h])]
    simp [preB, h]
  · unfold greetM
    rw [List.drop_left' (by simp [preB])]
    exact List.take_left' h
theorem marshal_greet {a b s : UInt8} {m : List UInt8} (h : m.length = 20) : marshalL (greetM a b m s) = greetM a b m s := by
  obtain ⟨h0, h9, h10, h11, h32, hm⟩ := greetM_get (a := a) (b := b) (s := s) h
  unfold marshalL
  rw [h0, h9, h10, h11, h32, hm]
  have hz : (((z64.set 0 255).set 9 127).set 10 a).set 11 b = preB a b ++ List.replicate 52 0 := rfl
  rw [hz, pre_splice a b m (by omega)]
  have hp : padTo m = m := by simp [padTo, h]
  rw [hp, greetM_set h]
end Go.Proofs.YtkpcepdalegmmaaGreatDoor

/-! Greetings: (*greeting).unmarshal. -/
namespace Go.Proofs.YtkpcepdalegmmaaGreatDoor
open Go.RowKit

theorem cell_far {w : World} {d i : Nat} {v : Option Value} (h : w.cell? ⟨d, i, none⟩ = v) {g : Nat} (hne : ¬ d = g) (o : Nat) (u : Value) : (w.setCell ⟨g, o, none⟩ u).cell? ⟨d, i, none⟩ = v :=
  (World.cell?_setCell_other w ⟨g, o, none⟩ ⟨d, i, none⟩ u (fun e => hne (by injection e with e1; exact e1.symm))).trans h

set_option maxRecDepth 100000 in
theorem unmarshal_g (g d : Nat) (T : TypeId) (l : List UInt8) (hl : l.length = 64) (w : World) (hg : BB w g 86 z64) (hd : BB w d T l) (hgd : g ≠ d) :
    Calls Tryz.prog 77 #[.pointer (some ⟨g, 0, none⟩), .slice (some ⟨d, 0, none⟩) 64 64] w fun e w' => e = .returned (.tuple #[]) ∧ BB w' g 86 (marshalL l) ∧ Apart [g] w w' ∧ w'.heap.size = w.heap.size := by
  obtain ⟨x0, e0⟩ : ∃ x, x = l.getD 0 0 := ⟨_, rfl⟩
  obtain ⟨x9, e9⟩ : ∃ x, x = l.getD 9 0 := ⟨_, rfl⟩
  obtain ⟨x10, e10⟩ : ∃ x, x = l.getD 10 0 := ⟨_, rfl⟩
  obtain ⟨x11, e11⟩ : ∃ x, x = l.getD 11 0 := ⟨_, rfl⟩
  obtain ⟨x32, e32⟩ : ∃ x, x = l.getD 32 0 := ⟨_, rfl⟩
  have HM : Hid (marshalL l = (splice ((((z64.set 0 x0).set 9 x9).set 10 x10).set 11 x11) 12 ((l.drop 12).take 20)).set 32 x32) := (by unfold marshalL; rw [e0, e9, e10, e11, e32] : marshalL l = _)
  have Q : ∀ i, i < 64 → w.cell? ⟨d, i, none⟩ = some (.int .u8 ((l.getD i 0).toNat : Int)) := fun i hi => hd.cell (by omega)
  have q0 := Q 0 (by omega)
  rw [← e0] at q0
  have q9 := Q 9 (by omega)
  rw [← e9] at q9
  have q10 := Q 10 (by omega)
  rw [← e10] at q10
  have q11 := Q 11 (by omega)
  rw [← e11] at q11
  have q32 := Q 32 (by omega)
  rw [← e32] at q32
  have E32 := Lib.hid e32
  clear Q e0 e9 e10 e11 e32
  have HL := Lib.hid hl
  clear hl
  have c0 := hg.cell (i := 0) (by decide)
  have f0 := hg.frozen 0
  have c9 := hg.cell (i := 9) (by decide)
  have f9 := hg.frozen 9
  have c10 := hg.cell (i := 10) (by decide)
  have f10 := hg.frozen 10
  have c11 := hg.cell (i := 11) (by decide)
  have f11 := hg.frozen 11
  have hdg : ¬ d = g := fun e => hgd e.symm
  have hs0 : ∀ W, (Instr.slice 23 (.slice (some ⟨d, 0, none⟩) 64 64) none (some (.int .i64 64)) none).run Tryz.prog W = .ok (.slice (some ⟨d, 0, none⟩) 64 64) W := fun W => run_slice_hi (some ⟨d, 0, none⟩) 64 64 W 64 (Nat.le_refl _)
  have hs1 : ∀ W, (Instr.slice 23 (.slice (some ⟨d, 0, none⟩) 64 64) (some (.int .i64 12)) (some (.int .i64 32)) none).run Tryz.prog W = .ok (.slice (some ⟨d, 12, none⟩) 20 52) W := fun W => run_slice_lh (some ⟨d, 0, none⟩) 64 64 W 12 32 (by omega) (by omega)
  go_enter Tryz.func77, Tryz.ntmps77
  go_wp2_with fail
  have hb2 := (hg.set 0 x0).set 9 x9
  have hd2 := (hd.farN (b := g) (o := 0) hdg (.int .u8 (x0.toNat : Int))).farN (b := g) (o := 9) hdg (.int .u8 (x9.toNat : Int))
  have hap2 := ((Apart.refl [g] w).setN (g := g) (o := 0) (.inl (by simp)) (.int .u8 (x0.toNat : Int))).setN (g := g) (o := 9) (.inl (by simp)) (.int .u8 (x9.toNat : Int))
  have hsz2 : ((w.setCell ⟨g, 0, none⟩ (.int .u8 (x0.toNat : Int))).setCell ⟨g, 9, none⟩ (.int .u8 (x9.toNat : Int))).heap.size = w.heap.size := by simp
  have q10' := (hap2.cell (p := ⟨d, 10, none⟩) hd.lt (by simpa using hdg)).trans q10
  generalize ((w.setCell ⟨g, 0, none⟩ (.int .u8 (x0.toNat : Int))).setCell ⟨g, 9, none⟩ (.int .u8 (x9.toNat : Int))) = W at *
  have c10' := hb2.cell (i := 10) (by simp [z64])
  have f10' := hb2.frozen 10
  have q10s := cell_far q10' hdg 10 (.int .u8 (x10.toNat : Int))
  go_region_held3 (fun V => V.cell? ⟨d, 10, none⟩ = some (.int .u8 (x10.toNat : Int))) ((first | exact q10' | exact q10s)) (first | fail)
  rename_i aK _
  refine aK _ _ ?_
  have hb3 := (hb2.set 10 x10).drew
  have hd3 := (hd2.farN (b := g) (o := 10) hdg (.int .u8 (x10.toNat : Int))).drew
  have hap3 := (hap2.setN (g := g) (o := 10) (.inl (by simp)) (.int .u8 (x10.toNat : Int))).drew
  have hsz3 : (W.setCell ⟨g, 10, none⟩ (.int .u8 (x10.toNat : Int))).drew.heap.size = w.heap.size := by simpa using hsz2
  have q11' := (hap3.cell (p := ⟨d, 11, none⟩) hd.lt (by simpa using hdg)).trans q11
  generalize (W.setCell ⟨g, 10, none⟩ (.int .u8 (x10.toNat : Int))).drew = W3 at *
  have c11' := hb3.cell (i := 11) (by simp [z64])
  have f11' := hb3.frozen 11
  have q11s := cell_far q11' hdg 11 (.int .u8 (x11.toNat : Int))
  go_wp2_with fail
  go_region_held3 (fun V => V.cell? ⟨d, 11, none⟩ = some (.int .u8 (x11.toNat : Int))) ((first | exact q11' | exact q11s)) (first | fail)
  rename_i aK _
  refine aK _ _ ?_
  have hb4 := (hb3.set 11 x11).drew
  have hd4 := (hd3.farN (b := g) (o := 11) hdg (.int .u8 (x11.toNat : Int))).drew
  have hap4 := (hap3.setN (g := g) (o := 11) (.inl (by simp)) (.int .u8 (x11.toNat : Int))).drew
  have hsz4 : (W3.setCell ⟨g, 11, none⟩ (.int .u8 (x11.toNat : Int))).drew.heap.size = w.heap.size := by simpa using hsz3
  have q32' := (hap4.cell (p := ⟨d, 32, none⟩) hd.lt (by simpa using hdg)).trans q32
  generalize (W3.setCell ⟨g, 11, none⟩ (.int .u8 (x11.toNat : Int))).drew = W4 at *
  have hr4 := hd4.rb (o := 12) (n := 20) (by rw [HL.out]; decide)
  go_wp2_with fail
  go_region_held3 (fun _ => True) (trivial)
    (first
      | (with_reducible refine st_at 40 ?_
         refine st_copyB rfl (.tmp 37) (.tmp 39) 23 rfl g 12 20 20 86 _ 20 _ _ 20 rfl rfl hb4.drew (lenOf_slice _ _ _) rfl (first_slice hr4.drew _ (Nat.le_refl _)) (len20 HL.out) (fit64 _ _ _ _) ?_
         intro w5 hb5 ha5 hs5
         have a32 := (ha5.cell (p := ⟨d, 32, none⟩) hd4.lt (by simpa using hdg)).trans q32'
         have b32 := hb5.cell (i := 32) (at32 _ _ _ _ (len20 HL.out))
         have f32 := hb5.frozen 32))
  rename_i aK _
  refine aK _ _ ?_
  go_wp2_with fail
  refine bodyPost_end (results_none rfl _ _ _) rfl ?_
  refine ⟨rfl, ?_, (hap4.drew.trans ha5).setN (.inl (by simp)) _, ?_⟩
  · have hf := hb5.set 32 x32
    rw [List.take_take, Nat.min_self] at hf
    rw [HM.out]
    exact hf
  · rw [World.size_setCell]
    exact hs5.trans hsz4
end Go.Proofs.YtkpcepdalegmmaaGreatDoor

/-! Greetings: defaultVersion, (*greeting).validate, asBool. -/
namespace Go.Proofs.YtkpcepdalegmmaaGreatDoor
open Go.RowKit

theorem defaultVersion (w : World) : Calls Tryz.prog 53 #[] w fun e w' => e = .returned (.agg #[.int .u8 3, .int .u8 0]) ∧ Below w.heap.size w w' := by
  go_enter Tryz.func53, Tryz.ntmps53
  go_wp2_with fail
  have hb := Blk.new w 80 #[.int .u8 3, .int .u8 0]
  have k0 := hb.cell 0
  have k1 := hb.cell 1
  simp only [List.getElem?_toArray, List.getElem?_cons_zero, List.getElem?_cons_succ] at k0 k1
  have hbl : Below w.heap.size w (w.alloc (.cells #[.int .u8 3, .int .u8 0] 80)) := (Below.refl _ _).alloc (Nat.le_refl _) _
  generalize w.alloc (.cells #[.int .u8 3, .int .u8 0] 80) = W at *
  refine bodyPost_ret (v := .agg #[.int .u8 3, .int .u8 0]) (by simp [results, Tryz.results53, go_sem, k0, k1]) rfl ⟨rfl, hbl⟩

theorem ver_eq (W : World) : (binOp .eql 80 (.agg #[.int .u8 3, .int .u8 0]) (.agg #[.int .u8 3, .int .u8 0])).run Tryz.prog W = .ok (.bool true) W := by kernel_rfl
theorem ver_ne (W : World) : (binOp .eql 80 (.agg #[.int .u8 3, .int .u8 1]) (.agg #[.int .u8 3, .int .u8 0])).run Tryz.prog W = .ok (.bool false) W := by kernel_rfl

theorem validate0 (g : Nat) (T : TypeId) (l : List UInt8) (hl : l.length = 64) (w : World) (hg : BB w g T l) (h10 : l.getD 10 0 = 3) (h11 : l.getD 11 0 = 0) :
    Calls Tryz.prog 78 #[.pointer (some ⟨g, 0, none⟩), .agg #[.int .u8 3, .int .u8 0]] w fun e w' => e = .returned (.bool true) ∧ Below w.heap.size w w' := by
  have q10 := hg.cell (i := 10) (by omega)
  have q11 := hg.cell (i := 11) (by omega)
  rw [h10] at q10
  rw [h11] at q11
  have q10' : w.cell? ⟨g, 10, none⟩ = some (.int .u8 3) := q10
  have q11' : w.cell? ⟨g, 11, none⟩ = some (.int .u8 0) := q11
  clear q10 q11 h10 h11
  have hgl := hg.lt
  have hne : ¬ w.heap.size = g := Nat.ne_of_gt hgl
  have ve := ver_eq
  go_enter Tryz.func78, Tryz.ntmps78
  go_wp2_with fail
  have hbl : Below w.heap.size w (w.alloc (.cells #[.int .u8 3, .int .u8 0] 80)) := (Below.refl _ _).alloc (Nat.le_refl _) _
  have hb := Blk.new w 80 #[.int .u8 3, .int .u8 0]
  have k0 := hb.cell 0
  have k1 := hb.cell 1
  have a10 := (hbl.cell (p := ⟨g, 10, none⟩) hgl).trans q10'
  have a11 := (hbl.cell (p := ⟨g, 11, none⟩) hgl).trans q11'
  simp only [List.getElem?_toArray, List.getElem?_cons_zero, List.getElem?_cons_succ] at k0 k1
  generalize w.alloc (.cells #[.int .u8 3, .int .u8 0] 80) = W at *
  go_quiet (fail)
  rename_i aK
  refine aK _ _ ?_
  go_wp2_with fail
  go_ret
  exact ⟨rfl, below_drewN hbl _⟩

theorem validate1 (g : Nat) (T : TypeId) (l : List UInt8) (hl : l.length = 64) (w : World) (hg : BB w g T l) (h10 : l.getD 10 0 = 3) (h11 : l.getD 11 0 = 1) :
    Calls Tryz.prog 78 #[.pointer (some ⟨g, 0, none⟩), .agg #[.int .u8 3, .int .u8 0]] w fun e w' => e = .returned (.bool true) ∧ Below w.heap.size w w' := by
  have q10 := hg.cell (i := 10) (by omega)
  have q11 := hg.cell (i := 11) (by omega)
  rw [h10] at q10
  rw [h11] at q11
  have q10' : w.cell? ⟨g, 10, none⟩ = some (.int .u8 3) := q10
  have q11' : w.cell? ⟨g, 11, none⟩ = some (.int .u8 1) := q11
  clear q10 q11 h10 h11
  have hgl := hg.lt
  have hne : ¬ w.heap.size = g := Nat.ne_of_gt hgl
  have ve := ver_ne
  go_enter Tryz.func78, Tryz.ntmps78
  go_wp2_with fail
  have hbl : Below w.heap.size w (w.alloc (.cells #[.int .u8 3, .int .u8 0] 80)) := (Below.refl _ _).alloc (Nat.le_refl _) _
  have hb := Blk.new w 80 #[.int .u8 3, .int .u8 0]
  have k0 := hb.cell 0
  have k1 := hb.cell 1
  have a10 := (hbl.cell (p := ⟨g, 10, none⟩) hgl).trans q10'
  have a11 := (hbl.cell (p := ⟨g, 11, none⟩) hgl).trans q11'
  simp only [List.getElem?_toArray, List.getElem?_cons_zero, List.getElem?_cons_succ] at k0 k1
  generalize w.alloc (.cells #[.int .u8 3, .int .u8 0] 80) = W at *
  go_quiet (fail)
  rename_i aK
  refine aK _ _ ?_
  go_wp2_with fail
  go_quiet (fail)
  rename_i aK
  refine aK _ _ ?_
  go_wp2_with fail
  go_ret
  exact ⟨rfl, below_drewN (below_drewN hbl _) _⟩

theorem asBool_ok (x : UInt8) (b : Bool) (hx : x = boolB b) (w : World) : Calls Tryz.prog 58 #[.int .u8 x.toNat] w fun e w' => e = .returned (.tuple #[.bool b, .nilIface]) ∧ w = w' := by
  cases b
  · subst hx
    rw [show ((boolB false).toNat : Int) = 0 from rfl]
    go_enter Tryz.func58, Tryz.ntmps58
    go_wp2_with fail
    go_ret2
    exact ⟨rfl, rfl⟩
  · subst hx
    rw [show ((boolB true).toNat : Int) = 1 from rfl]
    go_enter Tryz.func58, Tryz.ntmps58
    go_wp2_with fail
    go_ret2
    exact ⟨rfl, rfl⟩
end Go.Proofs.YtkpcepdalegmmaaGreatDoor

/-! The pipe: (*ZZPipe).Read, (*ZZPipe).Write. -/
namespace Go.Proofs.YtkpcepdalegmmaaGreatDoor
open Go.RowKit

def eofS : ByteArray := ⟨#[69, 79, 70]⟩
def endS : ByteArray := ⟨#[117, 110, 101, 120, 112, 101, 99, 116, 101, 100, 32, 69, 79, 70]⟩

theorem Read_none (g : Nat) (IA : Option Addr) (c : Nat) (out b : Value) (w : World) (hg : Blk w g 36 #[.slice IA 0 c, out]) :
    Calls Tryz.prog 124 #[.pointer (some ⟨g, 0, none⟩), b] w fun e w' => e = .returned (.tuple #[.int .i64 0, .iface 87 (.string eofS)]) ∧ w = w' := by
  have c0 := hg.cell 0
  simp only [List.getElem?_toArray, List.getElem?_cons_zero] at c0
  go_enter Tryz.func124, Tryz.ntmps124
  go_wp2_with fail
  go_ret2
  exact ⟨rfl, rfl⟩

set_option maxRecDepth 100000 in
theorem Read_some (g d off : Nat) (T : TypeId) (IA : Option Addr) (n c m cap k : Nat) (out : Value) (l inb : List UInt8) (w : World) (hg : Blk w g 36 #[.slice IA n c, out]) (hd : BB w d T l)
    (hr : RB w w.heap.size IA n inb) (hn : 0 < n) (hk : Nat.min n m = k) (hfit : off + m ≤ l.length) (hgd : g ≠ d) :
    Calls Tryz.prog 124 #[.pointer (some ⟨g, 0, none⟩), .slice (some ⟨d, off, none⟩) m cap] w fun e w' => e = .returned (.tuple #[.int .i64 k, .nilIface]) ∧ BB w' d T (splice l off (inb.take k)) ∧
      Blk w' g 36 #[.slice (cutA IA c k) (n - k) (c - k), out] ∧ Apart [d, g] w w' ∧ w'.heap.size = w.heap.size := by
  have hkn : k ≤ n := by rw [← hk]; exact Nat.min_le_left _ _
  have hkm : k ≤ m := by rw [← hk]; exact Nat.min_le_right _ _
  have hK := Lib.hid hk
  clear hk
  have hs : ∀ W, (Instr.slice 23 (.slice IA n c) (some (.int .i64 (k : Int))) none none).run Tryz.prog W = .ok (.slice (cutA IA c k) (n - k) (c - k)) W := fun W => run_slice_lo IA n c W k hkn
  have hl : inb.length = n := hr.len
  have hL := Lib.hid hl
  clear hl
  have c0 := hg.cell 0
  have c1 := hg.cell 1
  simp only [List.getElem?_toArray, List.getElem?_cons_zero, List.getElem?_cons_succ] at c0 c1
  have e0 : ((n : Int) == 0) = false := by rw [beq_eq_false_iff_ne]; omega
  have hgl := hg.lt
  generalize hA : cutA IA c k = A2 at hs ⊢
  clear hA
  go_enter Tryz.func124, Tryz.ntmps124
  go_wp2_with (first
    | (with_reducible refine wpl_copyB (o := ⟨some 19, _, _, _, _, _⟩) rfl (.tmp 14) (.tmp 18) 23 rfl d off m cap T (.slice IA n c) n l (inb.take k) k ?_ ?_ hd (lenOf_slice _ _ _) hK.out (first_slice hr c hkn) ?_ ?_ ?_
       · rfl
       · rfl
       · simp; rw [hL.out]; omega
       · omega
       intro w2 hd2 ha2 hs2
       have d0 := (ha2.cell (p := ⟨g, 0, none⟩) hgl (by simpa using hgd)).trans c0
       have d1 := (ha2.cell (p := ⟨g, 1, none⟩) hgl (by simpa using hgd)).trans c1
       have f0 := (ha2.blk hg (by simpa using hgd)).frozen 0
       have hg2 := ha2.blk hg (by simpa using hgd)
       have hs2' := Lib.hid hs2
       clear hs2 c0 c1))
  go_ret2
  have hgd' : d ≠ g := Ne.symm hgd
  refine ⟨rfl, hd2.farN hgd' _, hg2.set_ 0 _, (ha2.mono (fun k _ hk => by simp at hk; simp [hk])).setN (.inl (by simp)) _, ?_⟩
  rw [World.size_setCell]
  exact hs2'.out
end Go.Proofs.YtkpcepdalegmmaaGreatDoor
