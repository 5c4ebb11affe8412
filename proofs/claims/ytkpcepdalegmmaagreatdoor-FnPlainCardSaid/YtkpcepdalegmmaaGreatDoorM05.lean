/- Parts of a proof, laid behind one another: readFull over a pipe. Greetings: (*greeting).read. Greetings: indexByte, asString. Greetings: ZZParseGreeting. -/
import Derived.Test.YtkpcepdalegmmaaGreatDoorM04
import Derived.Deep.RegionHeld3
import Derived.WalkKit
/-! readFull over a pipe. -/
namespace Go.Proofs.YtkpcepdalegmmaaGreatDoor
open Go.RowKit

theorem run_slice_all (A : Option Addr) (n c : Nat) (W : World) : (Instr.slice 23 (.slice A n c) (some (.int .i64 0)) none none).run Tryz.prog W = .ok (.slice A n c) W := by
  have h := run_slice_lo A n c W 0 (Nat.zero_le _)
  have e : cutA A c 0 = A := by unfold cutA; cases A <;> simp [Addr.add]
  rw [e, Nat.sub_zero, Nat.sub_zero] at h
  exact h
theorem nil_Read (a : Addr) (w : World) : (nilAhead 318 34 (.pointer (some a)) "Read").run Tryz.prog w = .ok (some false) w := by kernel_rfl
theorem method_Read (a : Addr) (w : World) : (method 318 34 (.pointer (some a)) "Read").run Tryz.prog w = .ok (124, .pointer (some a)) w := by kernel_rfl

theorem eof_eof (W : World) : (binOp .eql 31 (.iface 87 (.string ⟨#[69, 79, 70]⟩)) (.iface 87 (.string ⟨#[69, 79, 70]⟩))).run Tryz.prog W = .ok (.bool true) W := by kernel_rfl
theorem eof_nil (W : World) : (binOp .eql 31 (.iface 87 (.string ⟨#[69, 79, 70]⟩)) .nilIface).run Tryz.prog W = .ok (.bool false) W := by kernel_rfl
theorem splice_nil (l : List UInt8) (off : Nat) : splice l off [] = l := by
  unfold splice
  simp

theorem readFull_zero (v : Value) (d0 : Option Addr) (cap : Nat) (w : World) :
    Calls Tryz.prog 59 #[v, .slice d0 0 cap] w fun e w' => e = .returned (.tuple #[.int .i64 0, .nilIface]) ∧ w' = w := by
  go_enter Tryz.func59, Tryz.ntmps59
  go_wp2_with fail
  refine wp_loop_rounds 1 ?_
  rw [rounds_succ]
  go_wp2_with fail
  go_ret2
  exact ⟨rfl, rfl⟩

set_option maxRecDepth 100000 in
theorem readFull_full (g d off : Nat) (T : TypeId) (IA : Option Addr) (n c m cap : Nat) (out : Value) (l inb : List UInt8) (w : World) (hg : Blk w g 36 #[.slice IA n c, out]) (hd : BB w d T l)
    (hr : RB w w.heap.size IA n inb) (hm : 0 < m) (hmn : m ≤ n) (hn : n ≤ 1099511627776) (hfit : off + m ≤ l.length) (hgd : g ≠ d) :
    Calls Tryz.prog 59 #[.iface 34 (.pointer (some ⟨g, 0, none⟩)), .slice (some ⟨d, off, none⟩) m cap] w fun e w' => e = .returned (.tuple #[.int .i64 m, .nilIface]) ∧ BB w' d T (splice l off (inb.take m)) ∧
      Blk w' g 36 #[.slice (cutA IA c m) (n - m) (c - m), out] ∧ Apart [d, g] w w' ∧ w'.heap.size = w.heap.size := by
  have na := nil_Read ⟨g, 0, none⟩
  have ma := method_Read ⟨g, 0, none⟩
  go_enter Tryz.func59, Tryz.ntmps59
  go_wp2_with fail
  refine wp_loop_rounds 2 ?_
  rw [rounds_succ]
  go_wp2_with fail
  have hs0 : ∀ W, (Instr.slice 23 (.slice (some ⟨d, off, none⟩) m cap) (some (.int .i64 0)) none none).run Tryz.prog W = .ok (.slice (some ⟨d, off, none⟩) m cap) W := fun W => run_slice_all _ m cap W
  go_region_held3 (fun _ => True) (trivial)
    (first
      | (go_at_call 124
         refine (Read_some g d off T IA n c m cap m out l inb _ hg.drew hd.drew hr.drew (by omega) (Nat.min_eq_right hmn) hfit hgd).mono ?_
         rintro e w2 ⟨rfl, hd2, hg2, ha2, hs2⟩))
  rename_i aK _
  refine aK _ _ ?_
  go_wp2_with fail
  rw [rounds_succ]
  go_wp2_with fail
  go_ret2
  exact ⟨rfl, hd2, hg2, (Apart.refl _ _).drew.trans ha2, hs2⟩

set_option maxRecDepth 100000 in
theorem readFull_eof (g : Nat) (b : Option Addr) (IA : Option Addr) (c m cap : Nat) (out : Value) (w : World) (hg : Blk w g 36 #[.slice IA 0 c, out]) (hm : 0 < m) (hm2 : m ≤ 1099511627776) :
    Calls Tryz.prog 59 #[.iface 34 (.pointer (some ⟨g, 0, none⟩)), .slice b m cap] w fun e w' => e = .returned (.tuple #[.int .i64 0, .iface 87 (.string eofS)]) ∧ Apart [] w w' ∧ w'.heap.size = w.heap.size := by
  have na := nil_Read ⟨g, 0, none⟩
  have ma := method_Read ⟨g, 0, none⟩
  have en := eof_nil
  go_enter Tryz.func59, Tryz.ntmps59
  go_wp2_with fail
  refine wp_loop_rounds 2 ?_
  rw [rounds_succ]
  go_wp2_with fail
  have hs0 : ∀ W, (Instr.slice 23 (.slice b m cap) (some (.int .i64 0)) none none).run Tryz.prog W = .ok (.slice b m cap) W := fun W => run_slice_all _ m cap W
  go_region_held3 (fun _ => True) (trivial)
    (first
      | (go_at_call 124
         refine (Read_none g IA c out _ _ hg.drew).mono ?_
         rintro e w2 ⟨rfl, rfl⟩))
  rename_i aK _
  refine aK _ _ ?_
  rw [show eofS = ⟨#[69, 79, 70]⟩ from rfl]
  go_wp2_with fail
  rw [rounds_succ]
  go_wp2_with fail
  go_ret2
  exact ⟨rfl, (Apart.refl _ _).drew, rfl⟩

set_option maxRecDepth 100000 in
theorem readFull_short (g d off : Nat) (T : TypeId) (IA : Option Addr) (n c m cap : Nat) (out : Value) (l inb : List UInt8) (w : World) (hg : Blk w g 36 #[.slice IA n c, out]) (hd : BB w d T l)
    (hr : RB w w.heap.size IA n inb) (hn : 0 < n) (hnm : n < m) (hm : m ≤ 1099511627776) (hfit : off + m ≤ l.length) (hgd : g ≠ d) :
    Calls Tryz.prog 59 #[.iface 34 (.pointer (some ⟨g, 0, none⟩)), .slice (some ⟨d, off, none⟩) m cap] w fun e w' => e = .returned (.tuple #[.int .i64 n, .iface 87 (.string endS)]) ∧ BB w' d T (splice l off inb) ∧
      Blk w' g 36 #[.slice (cutA IA c n) 0 (c - n), out] ∧ Apart [d, g] w w' ∧ w'.heap.size = w.heap.size := by
  have na := nil_Read ⟨g, 0, none⟩
  have ma := method_Read ⟨g, 0, none⟩
  have en := eof_nil
  have ee := eof_eof
  have ht : inb.take n = inb := by rw [List.take_of_length_le]; rw [hr.len]; exact Nat.le_refl _
  go_enter Tryz.func59, Tryz.ntmps59
  go_wp2_with fail
  refine wp_loop_rounds 3 ?_
  rw [rounds_succ]
  go_wp2_with fail
  have hs0 : ∀ W, (Instr.slice 23 (.slice (some ⟨d, off, none⟩) m cap) (some (.int .i64 0)) none none).run Tryz.prog W = .ok (.slice (some ⟨d, off, none⟩) m cap) W := fun W => run_slice_all _ m cap W
  go_region_held3 (fun _ => True) (trivial)
    (first
      | (go_at_call 124
         refine (Read_some g d off T IA n c m cap n out l inb _ hg.drew hd.drew hr.drew (by omega) (Nat.min_eq_left (Nat.le_of_lt hnm)) hfit hgd).mono ?_
         rintro e w2 ⟨rfl, hd2, hg2, ha2, hs2⟩
         rw [Nat.sub_self] at hg2
         rw [ht] at hd2))
  rename_i aK _
  refine aK _ _ ?_
  go_wp2_with fail
  rw [rounds_succ]
  go_wp2_with fail
  have hs1 : ∀ W, (Instr.slice 23 (.slice (some ⟨d, off, none⟩) m cap) (some (.int .i64 n)) none none).run Tryz.prog W = .ok (.slice (cutA (some ⟨d, off, none⟩) cap n) (m - n) (cap - n)) W := fun W => run_slice_lo _ m cap W n (Nat.le_of_lt hnm)
  go_region_held3 (fun _ => True) (trivial)
    (first
      | (go_at_call 124
         refine (Read_none g _ _ out _ _ hg2.drew).mono ?_
         rintro e w3 ⟨rfl, rfl⟩))
  rename_i aK _
  refine aK _ _ ?_
  rw [show eofS = ⟨#[69, 79, 70]⟩ from rfl]
  go_wp2_with fail
  rw [rounds_succ]
  go_wp2_with fail
  go_ret2
  exact ⟨rfl, hd2.drew, hg2.drew, ((Apart.refl _ _).drew.trans ha2).trans (Apart.refl _ _).drew, hs2⟩
end Go.Proofs.YtkpcepdalegmmaaGreatDoor

/-! Greetings: (*greeting).read. -/
namespace Go.Proofs.YtkpcepdalegmmaaGreatDoor
open Go.RowKit

theorem splice_lt {l x : List UInt8} {o i : Nat} (ho : o ≤ l.length) (hi : i < o) : (splice l o x)[i]? = l[i]? := by
  unfold splice
  rw [List.append_assoc, List.getElem?_append_left (by rw [List.length_take]; omega), List.getElem?_take, if_pos hi]
theorem splice_mid {l x : List UInt8} {o : Nat} (ho : o ≤ l.length) : ((splice l o x).drop o).take x.length = x := by
  unfold splice
  rw [List.append_assoc, List.drop_append, List.drop_eq_nil_of_le (by rw [List.length_take]; omega), List.nil_append, List.length_take, Nat.min_eq_left ho, Nat.sub_self, List.drop_zero]
  exact List.take_left
theorem marshalL_length {l : List UInt8} (h : l.length = 64) : (marshalL l).length = 64 := by
  unfold marshalL
  rw [List.length_set, splice_length (by simp [z64, h])]
  simp [z64]
theorem marshalL_get {l : List UInt8} (h : l.length = 64) : (marshalL l).getD 0 0 = l.getD 0 0 ∧ (marshalL l).getD 9 0 = l.getD 9 0 ∧ (marshalL l).getD 10 0 = l.getD 10 0 ∧ (marshalL l).getD 11 0 = l.getD 11 0 ∧
    (marshalL l).getD 32 0 = l.getD 32 0 ∧ ((marshalL l).drop 12).take 20 = (l.drop 12).take 20 := by
  have hz : ((((z64.set 0 (l.getD 0 0)).set 9 (l.getD 9 0)).set 10 (l.getD 10 0)).set 11 (l.getD 11 0)).length = 64 := by simp [z64]
  have hm : ((l.drop 12).take 20).length = 20 := by simp [h]
  unfold marshalL
  generalize hX : l.getD 0 0 = x0
  generalize l.getD 9 0 = x9
  generalize l.getD 10 0 = x10
  generalize l.getD 11 0 = x11
  generalize l.getD 32 0 = x32
  rw [hX] at hz
  generalize hM : (l.drop 12).take 20 = m at *
  refine ⟨?_, ?_, ?_, ?_, ?_, ?_⟩
  · rw [List.getD_eq_getElem?_getD, List.getElem?_set_ne (by decide), splice_lt (by simp [z64]) (by decide)]; rfl
  · rw [List.getD_eq_getElem?_getD, List.getElem?_set_ne (by decide), splice_lt (by simp [z64]) (by decide)]; rfl
  · rw [List.getD_eq_getElem?_getD, List.getElem?_set_ne (by decide), splice_lt (by simp [z64]) (by decide)]; rfl
  · rw [List.getD_eq_getElem?_getD, List.getElem?_set_ne (by decide), splice_lt (by simp [z64]) (by decide)]; rfl
  · rw [List.getD_eq_getElem?_getD, List.getElem?_set_self (at32 _ _ _ _ hm)]; rfl
  · rw [List.drop_set, if_neg (by decide), List.take_set]
    rw [List.set_eq_of_length_le (by rw [List.length_take]; exact Nat.min_le_left _ _)]
    have := splice_mid (l := ((((z64.set 0 x0).set 9 x9).set 10 x10).set 11 x11)) (x := m) (o := 12) (by simp [z64])
    rw [hm] at this
    exact this

/-- One turning behind another: the second's blocks are named ones or new ones. -/
theorem Apart.via {ps qs : List Nat} {a b c : World} (h : Apart ps a b) (k : Apart qs b c) (hq : ∀ i, i < a.heap.size → i ∈ qs → i ∈ ps) : Apart ps a c :=
  ⟨k.os.trans h.os, k.tape.trans h.tape, k.output.trans h.output, Nat.le_trans h.size k.size, fun i hi hn => (k.block i (Nat.lt_of_lt_of_le hi h.size) (fun hm => hn (hq i hi hm))).trans (h.block i hi hn)⟩

theorem readFull_lt (g d off : Nat) (T : TypeId) (IA : Option Addr) (n c m cap : Nat) (out : Value) (l inb : List UInt8) (w : World) (hg : Blk w g 36 #[.slice IA n c, out]) (hd : BB w d T l)
    (hr : RB w w.heap.size IA n inb) (hnm : n < m) (hm : m ≤ 1099511627776) (hfit : off + m ≤ l.length) (hgd : g ≠ d) :
    Calls Tryz.prog 59 #[.iface 34 (.pointer (some ⟨g, 0, none⟩)), .slice (some ⟨d, off, none⟩) m cap] w fun e w' => (∃ s, e = .returned (.tuple #[.int .i64 n, .iface 87 (.string s)])) ∧ Apart [d, g] w w' := by
  by_cases h0 : n = 0
  · subst h0
    refine (readFull_eof g (some ⟨d, off, none⟩) IA c m cap out w hg (by omega) hm).mono ?_
    rintro e w' ⟨rfl, ha, _⟩
    exact ⟨⟨_, rfl⟩, ha.mono (fun k _ hk => by cases hk)⟩
  · refine (readFull_short g d off T IA n c m cap out l inb w hg hd hr (by omega) hnm hm hfit hgd).mono ?_
    rintro e w' ⟨rfl, _, _, ha, _⟩
    exact ⟨⟨_, rfl⟩, ha⟩

set_option maxRecDepth 100000 in
theorem gread_short (g p : Nat) (IA : Option Addr) (n c : Nat) (out : Value) (inb : List UInt8) (w : World) (hp : Blk w p 36 #[.slice IA n c, out]) (hr : RB w w.heap.size IA n inb) (hn : n < 64) :
    Calls Tryz.prog 56 #[.pointer (some ⟨g, 0, none⟩), .iface 34 (.pointer (some ⟨p, 0, none⟩))] w fun e w' => (∃ s, e = .returned (.iface 87 (.string s))) ∧ Apart [g, p] w w' := by
  have hpw := hp.lt
  go_enter Tryz.func56, Tryz.ntmps56
  go_wp2_with (first
    | (with_reducible refine wpl_allocB (o := ⟨some 5, _, _, _, _, _⟩) rfl _ rfl z64 64 info_buf ?_
       intro w1 hb1 hbl1 hs1)
    | fail)
  refine (readFull_lt p w.heap.size 0 _ IA n c 64 64 out z64 inb w1 (hp.below hbl1 hpw) hb1 ((hr.below hbl1).more hbl1.size) hn (by decide) (by decide) (by omega)).mono ?_
  rintro e w2 ⟨⟨s, rfl⟩, ha⟩
  have haa : Apart [g, p] w w2 := (Apart.of_below hbl1).via ha (fun i hi hm => by simp at hm ⊢; omega)
  go_wp2_with fail
  go_ret
  exact ⟨⟨_, rfl⟩, haa⟩

theorem u8_ne {x : UInt8} {k : UInt8} (h : x ≠ k) : ((x.toNat : Int) != (k.toNat : Int)) = true := by
  rw [bne_iff_ne]
  exact fun e => h (UInt8.toNat_inj.1 (Int.ofNat.inj e))

set_option maxRecDepth 100000 in
theorem gread_bad (g p : Nat) (IA : Option Addr) (n c : Nat) (out : Value) (inb L : List UInt8) (w : World) (hg : BB w g 86 z64) (hp : Blk w p 36 #[.slice IA n c, out]) (hr : RB w w.heap.size IA n inb)
    (hn : 64 ≤ n) (hn2 : n ≤ 1099511627776) (hL : inb.take 64 = L) (hLl : L.length = 64) (hgp : g ≠ p) (hbad : L.getD 0 0 ≠ 255 ∨ L.getD 9 0 ≠ 127) :
    Calls Tryz.prog 56 #[.pointer (some ⟨g, 0, none⟩), .iface 34 (.pointer (some ⟨p, 0, none⟩))] w fun e w' => (∃ s, e = .returned (.iface 87 (.string s))) ∧ Apart [g, p] w w' := by
  have hpw := hp.lt
  have hgw := hg.lt
  go_enter Tryz.func56, Tryz.ntmps56
  go_wp2_with (first
    | (with_reducible refine wpl_allocB (o := ⟨some 5, _, _, _, _, _⟩) rfl _ rfl z64 64 info_buf ?_
       intro w1 hb1 hbl1 hs1)
    | fail)
  refine (readFull_full p w.heap.size 0 _ IA n c 64 64 out z64 inb w1 (hp.below hbl1 hpw) hb1 ((hr.below hbl1).more hbl1.size) (by decide) hn hn2 (by decide) (by omega)).mono ?_
  rintro e w2 ⟨rfl, hd2, hp2, ha2, hs2⟩
  have haa : Apart [g, p] w w2 := (Apart.of_below hbl1).via ha2 (fun i hi hm => by simp at hm ⊢; omega)
  rw [hL] at hd2
  have hsp : splice z64 0 L = L := by unfold splice; rw [hLl]; simp [z64]
  rw [hsp] at hd2
  have hg2 : BB w2 g 86 z64 := (hg.below hbl1 hgw).apart ha2 (by simp; omega)
  go_wp2_with fail
  refine (unmarshal_g g w.heap.size _ L hLl w2 hg2 hd2 (by omega)).mono ?_
  rintro e w3 ⟨rfl, hg3, ha3, hs3⟩
  have haa3 : Apart [g, p] w w3 := haa.via ha3 (fun i hi hm => by simp at hm ⊢; omega)
  obtain ⟨m0, m9, m10, m11, m32, mm⟩ := marshalL_get hLl
  have c0 := hg3.cell (i := 0) (by rw [marshalL_length hLl]; decide)
  have c9 := hg3.cell (i := 9) (by rw [marshalL_length hLl]; decide)
  rw [m0] at c0
  rw [m9] at c9
  clear m0 m9 m10 m11 m32 mm hg3 hg2 hd2 hL hsp hLl
  generalize L.getD 0 0 = x0 at *
  generalize L.getD 9 0 = x9 at *
  by_cases h0 : x0 = 255
  · have h9 : x9 ≠ 127 := hbad.resolve_left (fun h => h h0)
    subst h0
    have c0' : w3.cell? ⟨g, 0, none⟩ = some (.int .u8 255) := c0
    have e9 : ((x9.toNat : Int) != 127) = true := u8_ne h9
    clear c0
    go_wp2_with fail
    go_ret
    exact ⟨⟨_, rfl⟩, haa3⟩
  · have e0 : ((x0.toNat : Int) != 255) = true := u8_ne h0
    go_wp2_with fail
    go_ret
    exact ⟨⟨_, rfl⟩, haa3⟩

set_option maxRecDepth 100000 in
theorem gread_ok (g p : Nat) (IA : Option Addr) (n c : Nat) (out : Value) (inb L : List UInt8) (w : World) (hg : BB w g 86 z64) (hp : Blk w p 36 #[.slice IA n c, out]) (hr : RB w w.heap.size IA n inb)
    (hn : 64 ≤ n) (hn2 : n ≤ 1099511627776) (hL : inb.take 64 = L) (hLl : L.length = 64) (hgp : g ≠ p) (h0 : L.getD 0 0 = 255) (h9 : L.getD 9 0 = 127) (h10 : L.getD 10 0 = 3) (h11 : L.getD 11 0 = 0 ∨ L.getD 11 0 = 1) :
    Calls Tryz.prog 56 #[.pointer (some ⟨g, 0, none⟩), .iface 34 (.pointer (some ⟨p, 0, none⟩))] w fun e w' => e = .returned .nilIface ∧ BB w' g 86 (marshalL L) ∧ Apart [g, p] w w' := by
  have hpw := hp.lt
  have hgw := hg.lt
  go_enter Tryz.func56, Tryz.ntmps56
  go_wp2_with (first
    | (with_reducible refine wpl_allocB (o := ⟨some 5, _, _, _, _, _⟩) rfl _ rfl z64 64 info_buf ?_
       intro w1 hb1 hbl1 hs1)
    | fail)
  refine (readFull_full p w.heap.size 0 _ IA n c 64 64 out z64 inb w1 (hp.below hbl1 hpw) hb1 ((hr.below hbl1).more hbl1.size) (by decide) hn hn2 (by decide) (by omega)).mono ?_
  rintro e w2 ⟨rfl, hd2, hp2, ha2, hs2⟩
  have haa : Apart [g, p] w w2 := (Apart.of_below hbl1).via ha2 (fun i hi hm => by simp at hm ⊢; omega)
  rw [hL] at hd2
  have hsp : splice z64 0 L = L := by unfold splice; rw [hLl]; simp [z64]
  rw [hsp] at hd2
  have hg2 : BB w2 g 86 z64 := (hg.below hbl1 hgw).apart ha2 (by simp; omega)
  go_wp2_with fail
  refine (unmarshal_g g w.heap.size _ L hLl w2 hg2 hd2 (by omega)).mono ?_
  rintro e w3 ⟨rfl, hg3, ha3, hs3⟩
  have haa3 : Apart [g, p] w w3 := haa.via ha3 (fun i hi hm => by simp at hm ⊢; omega)
  obtain ⟨m0, m9, m10, m11, m32, mm⟩ := marshalL_get hLl
  have c0 := hg3.cell (i := 0) (by rw [marshalL_length hLl]; decide)
  have c9 := hg3.cell (i := 9) (by rw [marshalL_length hLl]; decide)
  have c10 := hg3.cell (i := 10) (by rw [marshalL_length hLl]; decide)
  have c11 := hg3.cell (i := 11) (by rw [marshalL_length hLl]; decide)
  rw [m0, h0] at c0
  rw [m9, h9] at c9
  have c0' : w3.cell? ⟨g, 0, none⟩ = some (.int .u8 255) := c0
  have c9' : w3.cell? ⟨g, 9, none⟩ = some (.int .u8 127) := c9
  have HG := Lib.hid hg3
  have HR := Lib.hid (⟨m10.trans h10, m11⟩ : (marshalL L).getD 10 0 = 3 ∧ (marshalL L).getD 11 0 = L.getD 11 0)
  clear m0 m9 m10 m11 m32 mm hg3 hg2 hd2 hL hsp c0 c9 c10 c11
  go_wp2_with fail
  refine (defaultVersion w3).mono ?_
  rintro e w4 ⟨rfl, hb4⟩
  have hg4 : BB w4 g 86 (marshalL L) := HG.out.after hb4 (Nat.le_refl _)
  have haa4 : Apart [g, p] w w4 := haa3.trans (Apart.of_below hb4)
  go_wp2_with fail
  refine Calls.mono (R := fun e w' => e = .returned (.bool true) ∧ Below w4.heap.size w4 w') ?_ ?_
  · rcases h11 with h | h
    · exact validate0 g _ _ (marshalL_length hLl) w4 hg4 HR.out.1 (HR.out.2.trans h)
    · exact validate1 g _ _ (marshalL_length hLl) w4 hg4 HR.out.1 (HR.out.2.trans h)
  rintro e w5 ⟨rfl, hb5⟩
  have hg5 : BB w5 g 86 (marshalL L) := hg4.after hb5 (Nat.le_refl _)
  have haa5 : Apart [g, p] w w5 := haa4.trans (Apart.of_below hb5)
  go_wp2_with fail
  go_ret
  exact ⟨rfl, hg5, haa5⟩
end Go.Proofs.YtkpcepdalegmmaaGreatDoor

/-! Greetings: indexByte, asString. -/
namespace Go.Proofs.YtkpcepdalegmmaaGreatDoor
open Go.RowKit

theorem u8_nz {x : UInt8} (h : x ≠ 0) : ((x.toNat : Int) == 0) = false := by
  rw [beq_eq_false_iff_ne]
  exact fun e => h (UInt8.toNat_inj.1 (Int.ofNat.inj e))

set_option maxRecDepth 100000 in
theorem indexByte (g off n c k : Nat) (T : TypeId) (L : List UInt8) (w : World) (hg : BB w g T L) (hn : n ≤ 1099511627776) (hfit : off + n ≤ L.length) (hk : k ≤ n) (hnz : ∀ j, j < k → L.getD (off + j) 0 ≠ 0) (hz : k < n → L.getD (off + k) 0 = 0) :
    Calls Tryz.prog 79 #[.slice (some ⟨g, off, none⟩) n c, .int .u8 0] w fun e w' => e = .returned (.int .i64 (if k < n then (k : Int) else -1)) ∧ w = w' := by
  go_enter Tryz.func79, Tryz.ntmps79
  go_wp2
  go_loop [9] (fun i => ∃ j : Nat, j ≤ k ∧ i = .int .i64 j) (fun i => n - (intOf i).toNat)
  case atStart => exact ⟨0, Nat.zero_le _, rfl⟩
  case round =>
    obtain ⟨j, hj, rfl⟩ := hrel
    by_cases hjn : j < n
    · have c0 := hg.cell (i := off + j) (by omega)
      by_cases hjk : j < k
      · have e0 := u8_nz (hnz j hjk)
        generalize L.getD (off + j) 0 = x at *
        clear hnz hz
        go_wp2
        go_round
        case rel => exact ⟨j + 1, by omega, by go_num⟩
        case measure => simp [intOf]; omega
      · have hjk' : j = k := by omega
        subst hjk'
        have hz' := hz hjn
        rw [hz'] at c0
        have c0' : w.cell? ⟨g, off + j, none⟩ = some (.int .u8 0) := c0
        clear hnz hz hz' c0
        go_wp2
        go_ret
        exact ⟨rfl, rfl⟩
    · have : j = n := by omega
      subst this
      have hkj : ¬ k < j := by omega
      clear hnz hz
      go_wp2
      go_ret
      exact ⟨rfl, rfl⟩

set_option maxRecDepth 100000 in
theorem asString (g off n c k : Nat) (T : TypeId) (L : List UInt8) (w : World) (hg : BB w g T L) (hn : n ≤ 1099511627776) (hfit : off + n ≤ L.length) (hk : k ≤ n) (hc : n ≤ c) (hnz : ∀ j, j < k → L.getD (off + j) 0 ≠ 0) (hz : k < n → L.getD (off + k) 0 = 0) :
    Calls Tryz.prog 57 #[.slice (some ⟨g, off, none⟩) n c] w fun e w' => e = .returned (.string ⟨((L.drop off).take k).toArray⟩) ∧ w = w' := by
  have hr := hg.rb (o := off) (n := k) (by omega)
  have hs : ∀ W, (Instr.slice 23 (.slice (some ⟨g, off, none⟩) n c) none (some (.int .i64 k)) none).run Tryz.prog W = .ok (.slice (some ⟨g, off, none⟩) k c) W := fun W => run_slice_hi (some ⟨g, off, none⟩) n c W k (by omega)
  have hv := run_strB (c := c) hr
  go_enter Tryz.func57, Tryz.ntmps57
  go_wp2_with fail
  refine (indexByte g off n c k T L w hg hn hfit hk hnz hz).mono ?_
  rintro e w2 ⟨rfl, rfl⟩
  by_cases hkn : k < n
  · rw [if_pos hkn]
    clear hnz hz
    go_wp2_with fail
    go_ret
    exact ⟨rfl, rfl⟩
  · rw [if_neg hkn]
    have : k = n := by omega
    subst this
    clear hnz hz
    go_wp2_with fail
    go_ret
    exact ⟨rfl, rfl⟩
end Go.Proofs.YtkpcepdalegmmaaGreatDoor

/-! Greetings: ZZParseGreeting. -/
namespace Go.Proofs.YtkpcepdalegmmaaGreatDoor
open Go.RowKit

/-- What a greeting that is none answers. -/
theorem read_no (g p : Nat) (IA : Option Addr) (n c : Nat) (out : Value) (inb : List UInt8) (w : World) (hg : BB w g 86 z64) (hp : Blk w p 36 #[.slice IA n c, out]) (hr : RB w w.heap.size IA n inb)
    (hn2 : n ≤ 1099511627776) (hgp : g ≠ p) (hbad : n < 64 ∨ inb.getD 0 0 ≠ 255 ∨ inb.getD 9 0 ≠ 127) :
    Calls Tryz.prog 56 #[.pointer (some ⟨g, 0, none⟩), .iface 34 (.pointer (some ⟨p, 0, none⟩))] w fun e w' => (∃ s, e = .returned (.iface 87 (.string s))) ∧ Apart [g, p] w w' := by
  by_cases h : n < 64
  · exact gread_short g p IA n c out inb w hp hr h
  · have hl := hr.len
    refine gread_bad g p IA n c out inb _ w hg hp hr (by omega) hn2 rfl (by rw [List.length_take, hl]; omega) hgp ?_
    have e : ∀ i, i < 64 → (inb.take 64).getD i 0 = inb.getD i 0 := fun i hi => by
      rw [List.getD_eq_getElem?_getD, List.getD_eq_getElem?_getD, List.getElem?_take, if_pos hi]
    rw [e 0 (by omega), e 9 (by omega)]
    exact hbad.resolve_left h

/-- No byte of a mechanism's name is nought. -/
def noZero (m : List UInt8) : Prop := ∀ x ∈ m, x ≠ 0

theorem pad_nz {m : List UInt8} (h : noZero m) (j : Nat) (hj : j < m.length) : (padTo m).getD j 0 ≠ 0 := by
  unfold padTo
  rw [List.getD_eq_getElem?_getD, List.getElem?_append_left hj, List.getElem?_eq_getElem hj]
  exact h _ (List.getElem_mem hj)
theorem pad_z {m : List UInt8} (h : m.length < 20) : (padTo m).getD m.length 0 = 0 := by
  unfold padTo
  rw [List.getD_eq_getElem?_getD, List.getElem?_append_right (Nat.le_refl _), Nat.sub_self, List.getElem?_replicate, if_pos (by omega)]
  rfl
theorem pad_take {m : List UInt8} : (padTo m).take m.length = m := by unfold padTo; exact List.take_left
theorem greetM_at {a b s : UInt8} {m : List UInt8} (h : m.length = 20) {j : Nat} (hj : j < 20) : (greetM a b m s).getD (12 + j) 0 = m.getD j 0 := by
  unfold greetM
  rw [List.getD_eq_getElem?_getD, List.getD_eq_getElem?_getD, List.getElem?_append_right (by simp [preB]), List.getElem?_append_left (by simp [preB, h]; exact hj)]
  simp [preB]

theorem asString_greet (g : Nat) (T : TypeId) (b x : UInt8) (m : List UInt8) (hm : m.length ≤ 20) (hz : noZero m) (w : World) (hg : BB w g T (greetM 3 b (padTo m) x)) :
    Calls Tryz.prog 57 #[.slice (some ⟨g, 12, none⟩) 20 20] w fun e w' => e = .returned (.string ⟨m.toArray⟩) ∧ w = w' := by
  have hp := padTo_length hm
  have e : ((greetM 3 b (padTo m) x).drop 12).take m.length = m := by
    have h := (greetM_get (a := 3) (b := b) (s := x) hp).2.2.2.2.2
    have h2 : (((greetM 3 b (padTo m) x).drop 12).take 20).take m.length = m := by rw [h]; exact pad_take
    rwa [List.take_take, Nat.min_eq_left hm] at h2
  have h := asString g 12 20 20 m.length T _ w hg (by decide) (by rw [greetM_length hp]; decide) hm (Nat.le_refl _) (fun j hj => by rw [greetM_at hp (by omega)]; exact pad_nz hz j hj) (fun h => by rw [greetM_at hp h]; exact pad_z h)
  rw [e] at h
  exact h

end Go.Proofs.YtkpcepdalegmmaaGreatDoor
