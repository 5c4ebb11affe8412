/- Greetings: (*greeting).marshal, ZZGreeting. -/
import Derived.Test.YtkpcepdalegmmaaArr
import Derived.Test.YtkpcepdalegmmaaQuiet
namespace Go.Proofs.Ytkpcepdalegmmaa
open Go.RowKit

def z64 : List UInt8 := List.replicate 64 0
theorem info_buf : (Try.prog.info? 139).map (fun i => (i.zero, i.size)) = some (some (.agg (bv z64).toArray), 64) := by kernel_rfl

/-- What marshal lays: the fields' bytes, the padding nought. -/
def marshalL (l : List UInt8) : List UInt8 :=
  (splice ((((z64.set 0 (l.getD 0 0)).set 9 (l.getD 9 0)).set 10 (l.getD 10 0)).set 11 (l.getD 11 0)) 12 ((l.drop 12).take 20)).set 32 (l.getD 32 0)

theorem len20 {l : List UInt8} (h : l.length = 64) : (((l.drop 12).take 20).take 20).length = 20 := by simp [h]
theorem fit64 (a b c d : UInt8) : 12 + 20 ≤ ((((z64.set 0 a).set 9 b).set 10 c).set 11 d).length := by simp [z64]
theorem at32 (a b c d : UInt8) {m : List UInt8} (h : m.length = 20) : 32 < (splice ((((z64.set 0 a).set 9 b).set 10 c).set 11 d) 12 m).length := by
  rw [splice_length (by rw [h]; exact fit64 a b c d)]; simp [z64]

set_option maxRecDepth 100000 in
theorem marshal (g : Nat) (l : List UInt8) (hl : l.length = 64) (w : World) (hg : BB w g 105 l) :
    Calls Try.prog 60 #[.pointer (some ⟨g, 0, none⟩)] w fun e w' => ∃ b, e = .returned (.slice (some ⟨b, 0, none⟩) 64 64) ∧ w.heap.size ≤ b ∧ BB w' b 139 (marshalL l) ∧ Below w.heap.size w w' := by
  obtain ⟨x0, e0⟩ : ∃ x, x = l.getD 0 0 := ⟨_, rfl⟩
  obtain ⟨x9, e9⟩ : ∃ x, x = l.getD 9 0 := ⟨_, rfl⟩
  obtain ⟨x10, e10⟩ : ∃ x, x = l.getD 10 0 := ⟨_, rfl⟩
  obtain ⟨x11, e11⟩ : ∃ x, x = l.getD 11 0 := ⟨_, rfl⟩
  obtain ⟨x32, e32⟩ : ∃ x, x = l.getD 32 0 := ⟨_, rfl⟩
  have HM : Hid (marshalL l = (splice ((((z64.set 0 x0).set 9 x9).set 10 x10).set 11 x11) 12 ((l.drop 12).take 20)).set 32 x32) := (by unfold marshalL; rw [e0, e9, e10, e11, e32] : marshalL l = _)
  have Q : ∀ i, i < 64 → w.cell? ⟨g, i, none⟩ = some (.int .u8 ((l.getD i 0).toNat : Int)) := fun i hi => hg.cell (by omega)
  have q0 := Q 0 (by omega)
  rw [← e0] at q0
  have q9 := Q 9 (by omega)
  rw [← e9] at q9
  have q10 := Q 10 (by omega)
  rw [← e10] at q10
  have q11 := Q 11 (by omega)
  rw [← e11] at q11
  have q32 := Q 32 (by omega)
  rw [← e32] at q32
  have E32 := Lib.hid e32
  clear Q e0 e9 e10 e11 e32
  have HL := Lib.hid hl
  clear hl
  have hgl := hg.lt
  have hne : ¬ w.heap.size = g := Nat.ne_of_gt hgl
  have hne' : ¬ g = w.heap.size := Nat.ne_of_lt hgl
  go_enter Try.func60, Try.ntmps60
  go_wp2_with (first
    | (with_reducible refine wpl_allocB (o := ⟨some 3, _, _, _, _, _⟩) rfl _ rfl z64 64 info_buf ?_
       intro w1 hb1 hbl1 hs1
       have a0 := (hbl1.cell (p := ⟨g, 0, none⟩) hgl).trans q0
       have a9 := (hbl1.cell (p := ⟨g, 9, none⟩) hgl).trans q9
       have a10 := (hbl1.cell (p := ⟨g, 10, none⟩) hgl).trans q10
       have a11 := (hbl1.cell (p := ⟨g, 11, none⟩) hgl).trans q11
       have a32 := (hbl1.cell (p := ⟨g, 32, none⟩) hgl).trans q32
       have b0 := hb1.cell (i := 0) (by decide)
       have f0 := hb1.frozen 0
       have b9 := hb1.cell (i := 9) (by decide)
       have f9 := hb1.frozen 9
       have b10 := hb1.cell (i := 10) (by decide)
       have f10 := hb1.frozen 10
       have b11 := hb1.cell (i := 11) (by decide)
       have f11 := hb1.frozen 11
       have b32 := hb1.cell (i := 32) (by decide)
       have f32 := hb1.frozen 32
       have hs1' := Lib.hid hs1
       clear hs1))
  have hb2 := (((hb1.set 0 x0).set 9 x9).set 10 x10).set 11 x11
  have hg2 := (((((hg.below hbl1 hgl).farN (b := w.heap.size) (o := 0) hne' (.int .u8 (x0.toNat : Int))).farN (b := w.heap.size) (o := 9) hne' (.int .u8 (x9.toNat : Int))).farN (b := w.heap.size) (o := 10) hne' (.int .u8 (x10.toNat : Int))).farN (b := w.heap.size) (o := 11) hne' (.int .u8 (x11.toNat : Int)))
  have a32' := hg2.cell (i := 32) (by rw [HL.out]; decide)
  have hbl2 := below_setN (o := 11) (below_setN (o := 10) (below_setN (o := 9) (below_setN (o := 0) hbl1 (Nat.le_refl _) (.int .u8 (x0.toNat : Int))) (Nat.le_refl _) (.int .u8 (x9.toNat : Int))) (Nat.le_refl _) (.int .u8 (x10.toNat : Int))) (Nat.le_refl _) (.int .u8 (x11.toNat : Int))
  have hr2 := hg2.rb (o := 12) (n := 20) (by rw [HL.out]; decide)
  have hs2 : ((((w1.setCell ⟨w.heap.size, 0, none⟩ (.int .u8 (x0.toNat : Int))).setCell ⟨w.heap.size, 9, none⟩ (.int .u8 (x9.toNat : Int))).setCell ⟨w.heap.size, 10, none⟩ (.int .u8 (x10.toNat : Int))).setCell ⟨w.heap.size, 11, none⟩ (.int .u8 (x11.toNat : Int))).heap.size = w1.heap.size := by simp
  generalize ((((w1.setCell ⟨w.heap.size, 0, none⟩ (.int .u8 (x0.toNat : Int))).setCell ⟨w.heap.size, 9, none⟩ (.int .u8 (x9.toNat : Int))).setCell ⟨w.heap.size, 10, none⟩ (.int .u8 (x10.toNat : Int))).setCell ⟨w.heap.size, 11, none⟩ (.int .u8 (x11.toNat : Int))) = W at *
  clear hb1 hs2
  go_region_held3 (fun _ => True) (trivial)
    (first
      | (with_reducible refine st_at 33 ?_
         refine st_copyB rfl (.tmp 28) (.tmp 32) 22 rfl w.heap.size 12 20 52 139 _ 20 _ _ 20 rfl rfl hb2.drew (lenOf_slice _ _ _) rfl (first_slice hr2.drew _ (Nat.le_refl _)) (len20 HL.out) (fit64 _ _ _ _) ?_
         intro w3 hb3 ha3 hs3
         have a32 := (ha3.cell (p := ⟨g, 32, none⟩) (show g < W.heap.size from hg2.lt) (by simpa using hne')).trans a32'
         have b32 := hb3.cell (i := 32) (at32 _ _ _ _ (len20 HL.out))
         have f32 := hb3.frozen 32
         have hs3' := Lib.hid hs3
         clear hs3))
  go_wp2_with fail
  go_ret
  refine ⟨w.heap.size, rfl, Nat.le_refl _, ?_, ?_⟩
  · have hf := hb3.set 32 (l[32]?.getD 0)
    rw [List.take_take, Nat.min_self] at hf
    rw [HM.out, E32.out, List.getD_eq_getElem?_getD]
    exact hf
  · exact below_setN (hbl2.drew.trans (ha3.below hbl2.size (by simp))) (Nat.le_refl _) _

/-- The first twelve bytes of a greeting. -/
def preB (a b : UInt8) : List UInt8 := [255, 0, 0, 0, 0, 0, 0, 0, 0, 127, a, b]
/-- A greeting's bytes: m are the mechanism's 20. -/
def greetM (a b : UInt8) (m : List UInt8) (s : UInt8) : List UInt8 := preB a b ++ (m ++ (s :: List.replicate 31 0))
/-- A mechanism's name with noughts up to 20 bytes. -/
def padTo (m : List UInt8) : List UInt8 := m ++ List.replicate (20 - m.length) 0
def boolB (b : Bool) : UInt8 := if b then 1 else 0

theorem padTo_length {m : List UInt8} (h : m.length ≤ 20) : (padTo m).length = 20 := by simp [padTo]; omega
theorem greetM_length {a b s : UInt8} {m : List UInt8} (h : m.length = 20) : (greetM a b m s).length = 64 := by simp [greetM, preB, h]
theorem pre_splice (a b : UInt8) (m : List UInt8) (h : m.length ≤ 20) : splice (preB a b ++ List.replicate 52 0) 12 m = greetM a b (padTo m) 0 := by
  unfold splice greetM padTo
  have h1 : (preB a b ++ List.replicate 52 0).take 12 = preB a b := List.take_left' (by simp [preB])
  have h2 : (preB a b ++ List.replicate 52 (0 : UInt8)).drop (12 + m.length) = List.replicate (52 - m.length) 0 := by
    rw [List.drop_append, List.drop_eq_nil_of_le (by simp [preB]), List.nil_append, List.drop_replicate]
    have e : 52 - (12 + m.length - (preB a b).length) = 52 - m.length := by
      show 52 - (12 + m.length - 12) = _
      omega
    rw [e]
  rw [h1, h2, List.append_assoc, List.append_assoc]
  have h3 : List.replicate (52 - m.length) (0 : UInt8) = List.replicate (20 - m.length) 0 ++ (0 :: List.replicate 31 0) := by
    rw [show (0 : UInt8) :: List.replicate 31 0 = List.replicate 32 0 from rfl, List.replicate_append_replicate]
    congr 1
    omega
  rw [h3]
theorem greetM_set {a b s t : UInt8} {m : List UInt8} (h : m.length = 20) : (greetM a b m s).set 32 t = greetM a b m t := by
  unfold greetM
  rw [List.set_append_right _ _ (by simp [preB]), List.set_append_right _ _ (by simp [preB, h])]
  simp [preB, h]
theorem greetM_get {a b s : UInt8} {m : List UInt8} (h : m.length = 20) : (greetM a b m s).getD 0 0 = 255 ∧ (greetM a b m s).getD 9 0 = 127 ∧ (greetM a b m s).getD 10 0 = a ∧ (greetM a b m s).getD 11 0 = b ∧
    (greetM a b m s).getD 32 0 = s ∧ ((greetM a b m s).drop 12).take 20 = m := by
  refine ⟨rfl, rfl, rfl, rfl, ?_, ?_⟩
  · unfold greetM
    rw [List.getD_eq_getElem?_getD, List.getElem?_append_right (by simp [preB]), List.getElem?_append_right (by simp [preB, h])]
    simp [preB, h]
  · unfold greetM
    rw [List.drop_left' (by simp [preB])]
    exact List.take_left' h
theorem marshal_greet {a b s : UInt8} {m : List UInt8} (h : m.length = 20) : marshalL (greetM a b m s) = greetM a b m s := by
  obtain ⟨h0, h9, h10, h11, h32, hm⟩ := greetM_get (a := a) (b := b) (s := s) h
  unfold marshalL
  rw [h0, h9, h10, h11, h32, hm]
  have hz : (((z64.set 0 255).set 9 127).set 10 a).set 11 b = preB a b ++ List.replicate 52 0 := rfl
  rw [hz, pre_splice a b m (by omega)]
  have hp : padTo m = m := by simp [padTo, h]
  rw [hp, greetM_set h]
end Go.Proofs.Ytkpcepdalegmmaa
