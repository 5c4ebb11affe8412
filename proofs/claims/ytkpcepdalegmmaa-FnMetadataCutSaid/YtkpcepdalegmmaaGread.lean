/- Greetings: (*greeting).read. -/
import Derived.Test.YtkpcepdalegmmaaValid
import Derived.Test.YtkpcepdalegmmaaFull
namespace Go.Proofs.Ytkpcepdalegmmaa
open Go.RowKit

theorem splice_lt {l x : List UInt8} {o i : Nat} (ho : o ≤ l.length) (hi : i < o) : (splice l o x)[i]? = l[i]? := by
  unfold splice
  rw [List.append_assoc, List.getElem?_append_left (by rw [List.length_take]; omega), List.getElem?_take, if_pos hi]
theorem splice_mid {l x : List UInt8} {o : Nat} (ho : o ≤ l.length) : ((splice l o x).drop o).take x.length = x := by
  unfold splice
  rw [List.append_assoc, List.drop_append, List.drop_eq_nil_of_le (by rw [List.length_take]; omega), List.nil_append, List.length_take, Nat.min_eq_left ho, Nat.sub_self, List.drop_zero]
  exact List.take_left
theorem marshalL_length {l : List UInt8} (h : l.length = 64) : (marshalL l).length = 64 := by
  unfold marshalL
  rw [List.length_set, splice_length (by simp [z64, h])]
  simp [z64]
theorem marshalL_get {l : List UInt8} (h : l.length = 64) : (marshalL l).getD 0 0 = l.getD 0 0 ∧ (marshalL l).getD 9 0 = l.getD 9 0 ∧ (marshalL l).getD 10 0 = l.getD 10 0 ∧ (marshalL l).getD 11 0 = l.getD 11 0 ∧
    (marshalL l).getD 32 0 = l.getD 32 0 ∧ ((marshalL l).drop 12).take 20 = (l.drop 12).take 20 := by
  have hz : ((((z64.set 0 (l.getD 0 0)).set 9 (l.getD 9 0)).set 10 (l.getD 10 0)).set 11 (l.getD 11 0)).length = 64 := by simp [z64]
  have hm : ((l.drop 12).take 20).length = 20 := by simp [h]
  unfold marshalL
  generalize hX : l.getD 0 0 = x0
  generalize l.getD 9 0 = x9
  generalize l.getD 10 0 = x10
  generalize l.getD 11 0 = x11
  generalize l.getD 32 0 = x32
  rw [hX] at hz
  generalize hM : (l.drop 12).take 20 = m at *
  refine ⟨?_, ?_, ?_, ?_, ?_, ?_⟩
  · rw [List.getD_eq_getElem?_getD, List.getElem?_set_ne (by decide), splice_lt (by simp [z64]) (by decide)]; rfl
  · rw [List.getD_eq_getElem?_getD, List.getElem?_set_ne (by decide), splice_lt (by simp [z64]) (by decide)]; rfl
  · rw [List.getD_eq_getElem?_getD, List.getElem?_set_ne (by decide), splice_lt (by simp [z64]) (by decide)]; rfl
  · rw [List.getD_eq_getElem?_getD, List.getElem?_set_ne (by decide), splice_lt (by simp [z64]) (by decide)]; rfl
  · rw [List.getD_eq_getElem?_getD, List.getElem?_set_self (at32 _ _ _ _ hm)]; rfl
  · rw [List.drop_set, if_neg (by decide), List.take_set]
    rw [List.set_eq_of_length_le (by rw [List.length_take]; exact Nat.min_le_left _ _)]
    have := splice_mid (l := ((((z64.set 0 x0).set 9 x9).set 10 x10).set 11 x11)) (x := m) (o := 12) (by simp [z64])
    rw [hm] at this
    exact this

/-- One turning behind another: the second's blocks are named ones or new ones. -/
theorem Apart.via {ps qs : List Nat} {a b c : World} (h : Apart ps a b) (k : Apart qs b c) (hq : ∀ i, i < a.heap.size → i ∈ qs → i ∈ ps) : Apart ps a c :=
  ⟨k.os.trans h.os, k.tape.trans h.tape, k.output.trans h.output, Nat.le_trans h.size k.size, fun i hi hn => (k.block i (Nat.lt_of_lt_of_le hi h.size) (fun hm => hn (hq i hi hm))).trans (h.block i hi hn)⟩

theorem readFull_lt (g d off : Nat) (T : TypeId) (IA : Option Addr) (n c m cap : Nat) (out : Value) (l inb : List UInt8) (w : World) (hg : Blk w g 77 #[.slice IA n c, out]) (hd : BB w d T l)
    (hr : RB w w.heap.size IA n inb) (hnm : n < m) (hm : m ≤ 1099511627776) (hfit : off + m ≤ l.length) (hgd : g ≠ d) :
    Calls Try.prog 69 #[.iface 75 (.pointer (some ⟨g, 0, none⟩)), .slice (some ⟨d, off, none⟩) m cap] w fun e w' => (∃ s, e = .returned (.tuple #[.int .i64 n, .iface 110 (.string s)])) ∧ Apart [d, g] w w' := by
  by_cases h0 : n = 0
  · subst h0
    refine (readFull_eof g (some ⟨d, off, none⟩) IA c m cap out w hg (by omega) hm).mono ?_
    rintro e w' ⟨rfl, ha, _⟩
    exact ⟨⟨_, rfl⟩, ha.mono (fun k _ hk => by cases hk)⟩
  · refine (readFull_short g d off T IA n c m cap out l inb w hg hd hr (by omega) hnm hm hfit hgd).mono ?_
    rintro e w' ⟨rfl, _, _, ha, _⟩
    exact ⟨⟨_, rfl⟩, ha⟩

set_option maxRecDepth 100000 in
theorem gread_short (g p : Nat) (IA : Option Addr) (n c : Nat) (out : Value) (inb : List UInt8) (w : World) (hp : Blk w p 77 #[.slice IA n c, out]) (hr : RB w w.heap.size IA n inb) (hn : n < 64) :
    Calls Try.prog 57 #[.pointer (some ⟨g, 0, none⟩), .iface 75 (.pointer (some ⟨p, 0, none⟩))] w fun e w' => (∃ s, e = .returned (.iface 110 (.string s))) ∧ Apart [g, p] w w' := by
  have hpw := hp.lt
  go_enter Try.func57, Try.ntmps57
  go_wp2_with (first
    | (with_reducible refine wpl_allocB (o := ⟨some 5, _, _, _, _, _⟩) rfl _ rfl z64 64 info_buf ?_
       intro w1 hb1 hbl1 hs1)
    | fail)
  refine (readFull_lt p w.heap.size 0 _ IA n c 64 64 out z64 inb w1 (hp.below hbl1 hpw) hb1 ((hr.below hbl1).more hbl1.size) hn (by decide) (by decide) (by omega)).mono ?_
  rintro e w2 ⟨⟨s, rfl⟩, ha⟩
  have haa : Apart [g, p] w w2 := (Apart.of_below hbl1).via ha (fun i hi hm => by simp at hm ⊢; omega)
  go_wp2_with fail
  go_ret
  exact ⟨⟨_, rfl⟩, haa⟩

theorem u8_ne {x : UInt8} {k : UInt8} (h : x ≠ k) : ((x.toNat : Int) != (k.toNat : Int)) = true := by
  rw [bne_iff_ne]
  exact fun e => h (UInt8.toNat_inj.1 (Int.ofNat.inj e))

set_option maxRecDepth 100000 in
theorem gread_bad (g p : Nat) (IA : Option Addr) (n c : Nat) (out : Value) (inb L : List UInt8) (w : World) (hg : BB w g 105 z64) (hp : Blk w p 77 #[.slice IA n c, out]) (hr : RB w w.heap.size IA n inb)
    (hn : 64 ≤ n) (hn2 : n ≤ 1099511627776) (hL : inb.take 64 = L) (hLl : L.length = 64) (hgp : g ≠ p) (hbad : L.getD 0 0 ≠ 255 ∨ L.getD 9 0 ≠ 127) :
    Calls Try.prog 57 #[.pointer (some ⟨g, 0, none⟩), .iface 75 (.pointer (some ⟨p, 0, none⟩))] w fun e w' => (∃ s, e = .returned (.iface 110 (.string s))) ∧ Apart [g, p] w w' := by
  have hpw := hp.lt
  have hgw := hg.lt
  go_enter Try.func57, Try.ntmps57
  go_wp2_with (first
    | (with_reducible refine wpl_allocB (o := ⟨some 5, _, _, _, _, _⟩) rfl _ rfl z64 64 info_buf ?_
       intro w1 hb1 hbl1 hs1)
    | fail)
  refine (readFull_full p w.heap.size 0 _ IA n c 64 64 out z64 inb w1 (hp.below hbl1 hpw) hb1 ((hr.below hbl1).more hbl1.size) (by decide) hn hn2 (by decide) (by omega)).mono ?_
  rintro e w2 ⟨rfl, hd2, hp2, ha2, hs2⟩
  have haa : Apart [g, p] w w2 := (Apart.of_below hbl1).via ha2 (fun i hi hm => by simp at hm ⊢; omega)
  rw [hL] at hd2
  have hsp : splice z64 0 L = L := by unfold splice; rw [hLl]; simp [z64]
  rw [hsp] at hd2
  have hg2 : BB w2 g 105 z64 := (hg.below hbl1 hgw).apart ha2 (by simp; omega)
  go_wp2_with fail
  refine (unmarshal_g g w.heap.size _ L hLl w2 hg2 hd2 (by omega)).mono ?_
  rintro e w3 ⟨rfl, hg3, ha3, hs3⟩
  have haa3 : Apart [g, p] w w3 := haa.via ha3 (fun i hi hm => by simp at hm ⊢; omega)
  obtain ⟨m0, m9, m10, m11, m32, mm⟩ := marshalL_get hLl
  have c0 := hg3.cell (i := 0) (by rw [marshalL_length hLl]; decide)
  have c9 := hg3.cell (i := 9) (by rw [marshalL_length hLl]; decide)
  rw [m0] at c0
  rw [m9] at c9
  clear m0 m9 m10 m11 m32 mm hg3 hg2 hd2 hL hsp hLl
  generalize L.getD 0 0 = x0 at *
  generalize L.getD 9 0 = x9 at *
  by_cases h0 : x0 = 255
  · have h9 : x9 ≠ 127 := hbad.resolve_left (fun h => h h0)
    subst h0
    have c0' : w3.cell? ⟨g, 0, none⟩ = some (.int .u8 255) := c0
    have e9 : ((x9.toNat : Int) != 127) = true := u8_ne h9
    clear c0
    go_wp2_with fail
    go_ret
    exact ⟨⟨_, rfl⟩, haa3⟩
  · have e0 : ((x0.toNat : Int) != 255) = true := u8_ne h0
    go_wp2_with fail
    go_ret
    exact ⟨⟨_, rfl⟩, haa3⟩

set_option maxRecDepth 100000 in
theorem gread_ok (g p : Nat) (IA : Option Addr) (n c : Nat) (out : Value) (inb L : List UInt8) (w : World) (hg : BB w g 105 z64) (hp : Blk w p 77 #[.slice IA n c, out]) (hr : RB w w.heap.size IA n inb)
    (hn : 64 ≤ n) (hn2 : n ≤ 1099511627776) (hL : inb.take 64 = L) (hLl : L.length = 64) (hgp : g ≠ p) (h0 : L.getD 0 0 = 255) (h9 : L.getD 9 0 = 127) (h10 : L.getD 10 0 = 3) (h11 : L.getD 11 0 = 0 ∨ L.getD 11 0 = 1) :
    Calls Try.prog 57 #[.pointer (some ⟨g, 0, none⟩), .iface 75 (.pointer (some ⟨p, 0, none⟩))] w fun e w' => e = .returned .nilIface ∧ BB w' g 105 (marshalL L) ∧ Apart [g, p] w w' := by
  have hpw := hp.lt
  have hgw := hg.lt
  go_enter Try.func57, Try.ntmps57
  go_wp2_with (first
    | (with_reducible refine wpl_allocB (o := ⟨some 5, _, _, _, _, _⟩) rfl _ rfl z64 64 info_buf ?_
       intro w1 hb1 hbl1 hs1)
    | fail)
  refine (readFull_full p w.heap.size 0 _ IA n c 64 64 out z64 inb w1 (hp.below hbl1 hpw) hb1 ((hr.below hbl1).more hbl1.size) (by decide) hn hn2 (by decide) (by omega)).mono ?_
  rintro e w2 ⟨rfl, hd2, hp2, ha2, hs2⟩
  have haa : Apart [g, p] w w2 := (Apart.of_below hbl1).via ha2 (fun i hi hm => by simp at hm ⊢; omega)
  rw [hL] at hd2
  have hsp : splice z64 0 L = L := by unfold splice; rw [hLl]; simp [z64]
  rw [hsp] at hd2
  have hg2 : BB w2 g 105 z64 := (hg.below hbl1 hgw).apart ha2 (by simp; omega)
  go_wp2_with fail
  refine (unmarshal_g g w.heap.size _ L hLl w2 hg2 hd2 (by omega)).mono ?_
  rintro e w3 ⟨rfl, hg3, ha3, hs3⟩
  have haa3 : Apart [g, p] w w3 := haa.via ha3 (fun i hi hm => by simp at hm ⊢; omega)
  obtain ⟨m0, m9, m10, m11, m32, mm⟩ := marshalL_get hLl
  have c0 := hg3.cell (i := 0) (by rw [marshalL_length hLl]; decide)
  have c9 := hg3.cell (i := 9) (by rw [marshalL_length hLl]; decide)
  have c10 := hg3.cell (i := 10) (by rw [marshalL_length hLl]; decide)
  have c11 := hg3.cell (i := 11) (by rw [marshalL_length hLl]; decide)
  rw [m0, h0] at c0
  rw [m9, h9] at c9
  have c0' : w3.cell? ⟨g, 0, none⟩ = some (.int .u8 255) := c0
  have c9' : w3.cell? ⟨g, 9, none⟩ = some (.int .u8 127) := c9
  have HG := Lib.hid hg3
  have HR := Lib.hid (⟨m10.trans h10, m11⟩ : (marshalL L).getD 10 0 = 3 ∧ (marshalL L).getD 11 0 = L.getD 11 0)
  clear m0 m9 m10 m11 m32 mm hg3 hg2 hd2 hL hsp c0 c9 c10 c11
  go_wp2_with fail
  refine (defaultVersion w3).mono ?_
  rintro e w4 ⟨rfl, hb4⟩
  have hg4 : BB w4 g 105 (marshalL L) := HG.out.after hb4 (Nat.le_refl _)
  have haa4 : Apart [g, p] w w4 := haa3.trans (Apart.of_below hb4)
  go_wp2_with fail
  refine Calls.mono (R := fun e w' => e = .returned (.bool true) ∧ Below w4.heap.size w4 w') ?_ ?_
  · rcases h11 with h | h
    · exact validate0 g _ _ (marshalL_length hLl) w4 hg4 HR.out.1 (HR.out.2.trans h)
    · exact validate1 g _ _ (marshalL_length hLl) w4 hg4 HR.out.1 (HR.out.2.trans h)
  rintro e w5 ⟨rfl, hb5⟩
  have hg5 : BB w5 g 105 (marshalL L) := hg4.after hb5 (Nat.le_refl _)
  have haa5 : Apart [g, p] w w5 := haa4.trans (Apart.of_below hb5)
  go_wp2_with fail
  go_ret
  exact ⟨rfl, hg5, haa5⟩
end Go.Proofs.Ytkpcepdalegmmaa
