/- Greetings: ZZParseGreeting. -/
import Derived.Test.YtkpcepdalegmmaaGread
import Derived.Test.YtkpcepdalegmmaaStr
import Derived.Deep.RegionHeld3
namespace Go.Proofs.Ytkpcepdalegmmaa
open Go.RowKit

/-- What a greeting that is none answers. -/
theorem read_no (g p : Nat) (IA : Option Addr) (n c : Nat) (out : Value) (inb : List UInt8) (w : World) (hg : BB w g 105 z64) (hp : Blk w p 77 #[.slice IA n c, out]) (hr : RB w w.heap.size IA n inb)
    (hn2 : n ≤ 1099511627776) (hgp : g ≠ p) (hbad : n < 64 ∨ inb.getD 0 0 ≠ 255 ∨ inb.getD 9 0 ≠ 127) :
    Calls Try.prog 57 #[.pointer (some ⟨g, 0, none⟩), .iface 75 (.pointer (some ⟨p, 0, none⟩))] w fun e w' => (∃ s, e = .returned (.iface 110 (.string s))) ∧ Apart [g, p] w w' := by
  by_cases h : n < 64
  · exact gread_short g p IA n c out inb w hp hr h
  · have hl := hr.len
    refine gread_bad g p IA n c out inb _ w hg hp hr (by omega) hn2 rfl (by rw [List.length_take, hl]; omega) hgp ?_
    have e : ∀ i, i < 64 → (inb.take 64).getD i 0 = inb.getD i 0 := fun i hi => by
      rw [List.getD_eq_getElem?_getD, List.getD_eq_getElem?_getD, List.getElem?_take, if_pos hi]
    rw [e 0 (by omega), e 9 (by omega)]
    exact hbad.resolve_left h

set_option maxRecDepth 100000 in
theorem ZZParseGreeting_no (IA : Option Addr) (n c : Nat) (inb : List UInt8) (w : World) (hr : RB w w.heap.size IA n inb) (hn2 : n ≤ 1099511627776) (hbad : n < 64 ∨ inb.getD 0 0 ≠ 255 ∨ inb.getD 9 0 ≠ 127) :
    Calls Try.prog 36 #[.slice IA n c] w fun e w' => (∃ s, e = .returned (.tuple #[.int .u8 0, .int .u8 0, .string ⟨#[]⟩, .bool false, .iface 110 (.string s)])) ∧ Below w.heap.size w w' := by
  go_enter Try.func36, Try.ntmps36
  go_wp2_with fail
  change Calls _ _ _ ((w.alloc (Obj.cells (bv z64).toArray 105)).alloc (Obj.cells #[.slice IA n c, .slice none 0 0] 77)) _
  have hb1 := BB.mk w 105 z64
  have hbl1 : Below w.heap.size w (w.alloc (Obj.cells (bv z64).toArray 105)) := (Below.refl _ _).alloc (Nat.le_refl _) _
  have hs1 : (w.alloc (Obj.cells (bv z64).toArray 105)).heap.size = w.heap.size + 1 := by simp
  generalize w.alloc (Obj.cells (bv z64).toArray 105) = w1 at *
  have hs1' := Lib.hid hs1
  have e1 : w.heap.size + 1 = w1.heap.size := hs1.symm
  rw [e1]
  refine (read_no w.heap.size w1.heap.size IA n c _ inb (w1.alloc _) (hb1.alloc _) (Blk.new w1 77 #[.slice IA n c, .slice none 0 0]) (((hr.below hbl1).more hbl1.size).new _) hn2 (by omega) hbad).mono ?_
  rintro e w2 ⟨⟨s, rfl⟩, ha⟩
  have hbl2 : Below w.heap.size w w2 := (hbl1.alloc (by omega) _).trans (ha.below (by simp; omega) (fun k hk => by simp at hk; omega))
  clear hs1 e1
  go_wp2_with fail
  refine bodyPost_ret (v := .tuple #[.int .u8 0, .int .u8 0, .string ⟨#[]⟩, .bool false, .iface 110 (.string s)]) (by simp [results, Try.results36, go_sem]) rfl ⟨⟨_, rfl⟩, hbl2⟩

/-- No byte of a mechanism's name is nought. -/
def noZero (m : List UInt8) : Prop := ∀ x ∈ m, x ≠ 0

theorem pad_nz {m : List UInt8} (h : noZero m) (j : Nat) (hj : j < m.length) : (padTo m).getD j 0 ≠ 0 := by
  unfold padTo
  rw [List.getD_eq_getElem?_getD, List.getElem?_append_left hj, List.getElem?_eq_getElem hj]
  exact h _ (List.getElem_mem hj)
theorem pad_z {m : List UInt8} (h : m.length < 20) : (padTo m).getD m.length 0 = 0 := by
  unfold padTo
  rw [List.getD_eq_getElem?_getD, List.getElem?_append_right (Nat.le_refl _), Nat.sub_self, List.getElem?_replicate, if_pos (by omega)]
  rfl
theorem pad_take {m : List UInt8} : (padTo m).take m.length = m := by unfold padTo; exact List.take_left
theorem greetM_at {a b s : UInt8} {m : List UInt8} (h : m.length = 20) {j : Nat} (hj : j < 20) : (greetM a b m s).getD (12 + j) 0 = m.getD j 0 := by
  unfold greetM
  rw [List.getD_eq_getElem?_getD, List.getD_eq_getElem?_getD, List.getElem?_append_right (by simp [preB]), List.getElem?_append_left (by simp [preB, h]; exact hj)]
  simp [preB]

theorem asString_greet (g : Nat) (T : TypeId) (b x : UInt8) (m : List UInt8) (hm : m.length ≤ 20) (hz : noZero m) (w : World) (hg : BB w g T (greetM 3 b (padTo m) x)) :
    Calls Try.prog 59 #[.slice (some ⟨g, 12, none⟩) 20 20] w fun e w' => e = .returned (.string ⟨m.toArray⟩) ∧ w = w' := by
  have hp := padTo_length hm
  have e : ((greetM 3 b (padTo m) x).drop 12).take m.length = m := by
    have h := (greetM_get (a := 3) (b := b) (s := x) hp).2.2.2.2.2
    have h2 : (((greetM 3 b (padTo m) x).drop 12).take 20).take m.length = m := by rw [h]; exact pad_take
    rwa [List.take_take, Nat.min_eq_left hm] at h2
  have h := asString g 12 20 20 m.length T _ w hg (by decide) (by rw [greetM_length hp]; decide) hm (Nat.le_refl _) (fun j hj => by rw [greetM_at hp (by omega)]; exact pad_nz hz j hj) (fun h => by rw [greetM_at hp h]; exact pad_z h)
  rw [e] at h
  exact h

set_option maxRecDepth 100000 in
theorem ZZParseGreeting_ok (IA : Option Addr) (c : Nat) (b : UInt8) (m : List UInt8) (server : Bool) (w : World) (hr : RB w w.heap.size IA 64 (greetM 3 b (padTo m) (boolB server))) (hm : m.length ≤ 20) (hz : noZero m) (hb : b = 0 ∨ b = 1) :
    Calls Try.prog 36 #[.slice IA 64 c] w fun e w' => e = .returned (.tuple #[.int .u8 3, .int .u8 b.toNat, .string ⟨m.toArray⟩, .bool server, .nilIface]) ∧ Below w.heap.size w w' := by
  have hp := Lib.hid (padTo_length hm)
  go_enter Try.func36, Try.ntmps36
  go_wp2_with fail
  change Calls _ _ _ ((w.alloc (Obj.cells (bv z64).toArray 105)).alloc (Obj.cells #[.slice IA 64 c, .slice none 0 0] 77)) _
  have hb1 := BB.mk w 105 z64
  have hbl1 : Below w.heap.size w (w.alloc (Obj.cells (bv z64).toArray 105)) := (Below.refl _ _).alloc (Nat.le_refl _) _
  have hs1 : (w.alloc (Obj.cells (bv z64).toArray 105)).heap.size = w.heap.size + 1 := by simp
  generalize w.alloc (Obj.cells (bv z64).toArray 105) = w1 at *
  have hs1' := Lib.hid hs1
  have e1 : w.heap.size + 1 = w1.heap.size := hs1.symm
  rw [e1]
  obtain ⟨h0, h9, h10, h11, h32, hmm⟩ := greetM_get (a := 3) (b := b) (s := boolB server) hp.out
  refine (gread_ok w.heap.size w1.heap.size IA 64 c _ _ _ (w1.alloc _) (hb1.alloc _) (Blk.new w1 77 #[.slice IA 64 c, .slice none 0 0]) (((hr.below hbl1).more hbl1.size).new _) (Nat.le_refl _) (by decide) (List.take_of_length_le (by rw [greetM_length hp.out]; exact Nat.le_refl _)) (greetM_length hp.out) (by omega) h0 h9 h10 (by rw [h11]; exact hb)).mono ?_
  rintro e w2 ⟨rfl, hg2, ha⟩
  have hbl2 : Below w.heap.size w w2 := (hbl1.alloc (by omega) _).trans (ha.below (by simp; omega) (fun k hk => by simp at hk; omega))
  rw [marshal_greet hp.out] at hg2
  have c10 := hg2.cell (i := 10) (by rw [greetM_length hp.out]; decide)
  have c11 := hg2.cell (i := 11) (by rw [greetM_length hp.out]; decide)
  have c32 := hg2.cell (i := 32) (by rw [greetM_length hp.out]; decide)
  rw [h10] at c10
  rw [h11] at c11
  rw [h32] at c32
  have c10' : w2.cell? ⟨w.heap.size, 10, none⟩ = some (.int .u8 3) := c10
  clear h0 h9 h10 h11 h32 hmm c10 hs1 e1
  go_wp2_with fail
  refine (asBool_ok _ server rfl _).mono ?_
  rintro e w3 ⟨rfl, rfl⟩
  go_wp2_with fail
  go_region_held3 (fun V => V.cell? ⟨w.heap.size, 10, none⟩ = some (.int .u8 3) ∧ V.cell? ⟨w.heap.size, 11, none⟩ = some (.int .u8 (b.toNat : Int))) (exact ⟨c10', c11⟩)
    (first
      | (go_at_call 59
         refine (asString_greet w.heap.size _ b _ m hm hz _ hg2.drew).mono ?_
         rintro e w4 ⟨rfl, rfl⟩))
  rename_i aK _
  refine aK _ _ ?_
  go_wp2_with fail
  refine bodyPost_ret (v := .tuple #[.int .u8 3, .int .u8 b.toNat, .string ⟨m.toArray⟩, .bool server, .nilIface]) (by simp [results, Try.results36, go_sem]) rfl ⟨rfl, hbl2.drew⟩
end Go.Proofs.Ytkpcepdalegmmaa
