/- Parts of a proof, laid behind one another: PLAIN: a greeting is read, and the rest is left. PLAIN: a client's greeting. A slice expression that panics: the world moves by draws alone. -/
import Derived.Test.YtkpcepdalegmmaaGreatDoorM05
import Derived.Test.YtkpcepdalegmmaaGreatDoorM20
import Derived.Deep.RegionHeld3
import Derived.Test.YtkpcepdalegmmaaGreatDoorM01
import Derived.Laws.Panics
import Derived.Laws.PanicsMore
/-! PLAIN: a greeting is read, and the rest is left. -/
namespace Go.Proofs.YtkpcepdalegmmaaGreatDoor
open Go.RowKit

set_option maxRecDepth 100000 in
theorem gread_more (g p : Nat) (IA : Option Addr) (n c : Nat) (out : Value) (inb L : List UInt8) (w : World) (hg : BB w g 86 z64) (hp : Blk w p 36 #[.slice IA n c, out]) (hr : RB w w.heap.size IA n inb)
    (hn : 64 ≤ n) (hn2 : n ≤ 1099511627776) (hL : inb.take 64 = L) (hLl : L.length = 64) (hgp : g ≠ p) (h0 : L.getD 0 0 = 255) (h9 : L.getD 9 0 = 127) (h10 : L.getD 10 0 = 3) (h11 : L.getD 11 0 = 0 ∨ L.getD 11 0 = 1) :
    Calls Tryz.prog 56 #[.pointer (some ⟨g, 0, none⟩), .iface 34 (.pointer (some ⟨p, 0, none⟩))] w fun e w' => e = .returned .nilIface ∧ BB w' g 86 (marshalL L) ∧ Blk w' p 36 #[.slice (cutA IA c 64) (n - 64) (c - 64), out] ∧ Apart [g, p] w w' := by
  have hpw := hp.lt
  have hgw := hg.lt
  go_enter Tryz.func56, Tryz.ntmps56
  go_wp2_with (first
    | (with_reducible refine wpl_allocB (o := ⟨some 5, _, _, _, _, _⟩) rfl _ rfl z64 64 info_buf ?_
       intro w1 hb1 hbl1 hs1)
    | fail)
  refine (readFull_full p w.heap.size 0 _ IA n c 64 64 out z64 inb w1 (hp.below hbl1 hpw) hb1 ((hr.below hbl1).more hbl1.size) (by decide) hn hn2 (by decide) (by omega)).mono ?_
  rintro e w2 ⟨rfl, hd2, hp2, ha2, hs2⟩
  have haa : Apart [g, p] w w2 := (Apart.of_below hbl1).via ha2 (fun i hi hm => by simp at hm ⊢; omega)
  rw [hL] at hd2
  have hsp : splice z64 0 L = L := by unfold splice; rw [hLl]; simp [z64]
  rw [hsp] at hd2
  have hg2 : BB w2 g 86 z64 := (hg.below hbl1 hgw).apart ha2 (by simp; omega)
  go_wp2_with fail
  refine (unmarshal_g g w.heap.size _ L hLl w2 hg2 hd2 (by omega)).mono ?_
  rintro e w3 ⟨rfl, hg3, ha3, hs3⟩
  have hp3 := ha3.blk hp2 (by simp; omega)
  have haa3 : Apart [g, p] w w3 := haa.via ha3 (fun i hi hm => by simp at hm ⊢; omega)
  obtain ⟨m0, m9, m10, m11, m32, mm⟩ := marshalL_get hLl
  have c0 := hg3.cell (i := 0) (by rw [marshalL_length hLl]; decide)
  have c9 := hg3.cell (i := 9) (by rw [marshalL_length hLl]; decide)
  have c10 := hg3.cell (i := 10) (by rw [marshalL_length hLl]; decide)
  have c11 := hg3.cell (i := 11) (by rw [marshalL_length hLl]; decide)
  rw [m0, h0] at c0
  rw [m9, h9] at c9
  have c0' : w3.cell? ⟨g, 0, none⟩ = some (.int .u8 255) := c0
  have c9' : w3.cell? ⟨g, 9, none⟩ = some (.int .u8 127) := c9
  have HG := Lib.hid hg3
  have HR := Lib.hid (⟨m10.trans h10, m11⟩ : (marshalL L).getD 10 0 = 3 ∧ (marshalL L).getD 11 0 = L.getD 11 0)
  clear m0 m9 m10 m11 m32 mm hg3 hg2 hd2 hL hsp c0 c9 c10 c11
  go_wp2_with fail
  refine (defaultVersion w3).mono ?_
  rintro e w4 ⟨rfl, hb4⟩
  have hg4 : BB w4 g 86 (marshalL L) := HG.out.after hb4 (Nat.le_refl _)
  have hp4 := hp3.after hb4 (Nat.le_refl _)
  have haa4 : Apart [g, p] w w4 := haa3.trans (Apart.of_below hb4)
  go_wp2_with fail
  refine Calls.mono (R := fun e w' => e = .returned (.bool true) ∧ Below w4.heap.size w4 w') ?_ ?_
  · rcases h11 with h | h
    · exact validate0 g _ _ (marshalL_length hLl) w4 hg4 HR.out.1 (HR.out.2.trans h)
    · exact validate1 g _ _ (marshalL_length hLl) w4 hg4 HR.out.1 (HR.out.2.trans h)
  rintro e w5 ⟨rfl, hb5⟩
  have hg5 : BB w5 g 86 (marshalL L) := hg4.after hb5 (Nat.le_refl _)
  have haa5 : Apart [g, p] w w5 := haa4.trans (Apart.of_below hb5)
  go_wp2_with fail
  go_ret
  exact ⟨rfl, hg5, hp4.after hb5 (Nat.le_refl _), haa5⟩
set_option maxRecDepth 100000 in
theorem GWrite (g p base on oc : Nat) (iv : Value) (OA : Option Addr) (ob l : List UInt8) (w : World) (hg : BB w g 86 l) (hl : l.length = 64) (hp : Blk w p 36 #[iv, .slice OA on oc]) (ho : OB w base OA on oc ob) (hsz : on ≤ 1000000) (hb : base ≤ w.heap.size) :
    Calls Tryz.prog 54 #[.pointer (some ⟨g, 0, none⟩), .iface 34 (.pointer (some ⟨p, 0, none⟩))] w fun e w' => e = .returned .nilIface ∧ ∃ OA' oc' u v, OB v base OA' (on + 64) oc' (ob ++ marshalL l) ∧ Below w.heap.size w u ∧ u.grownBy v (OA.map (·.block)) ∧ w' = v.setCell ⟨p, 1, none⟩ (.slice OA' (on + 64) oc') := by
  have na := nil_Write ⟨p, 0, none⟩
  have ma := method_Write ⟨p, 0, none⟩
  go_enter Tryz.func54, Tryz.ntmps54
  go_wp2_with fail
  go_region_held3 (fun _ => True) (trivial)
    (first
      | (go_at_call 33
         refine (marshal g l hl _ hg.drew).mono ?_
         rintro e w1 ⟨b, rfl, hbb, hbm, hbl⟩
         have hbl1 : Below w.heap.size w w1 := (Below.refl _ w).drew.trans hbl
         have hsz1 := hbl1.size
         have hrb := hbm.rb (o := 0) (n := 64) (by rw [marshalL_length hl]; decide)
         rw [List.drop_zero, List.take_of_length_le (by rw [marshalL_length hl]; decide)] at hrb)
      | (go_at_call 125
         refine (Write_any p base on oc 64 64 w1.heap.size iv OA (some ⟨b, 0, none⟩) ob (marshalL l) w1 (hp.after hbl1 (Nat.le_refl _)) ((Apart.of_below hbl1).ob ho (ps := []) (fun _ _ => by simp)) hrb (by omega) (by omega)).mono ?_
         rintro e w2 ⟨rfl, OA', oc', v, hov, hg2, hoa, rfl⟩))
  all_goals
    rename_i aK _
    refine aK _ _ ?_
    have HF := Lib.hid (⟨hov, hbl1, hg2⟩ : _ ∧ _ ∧ _)
    clear hov hbl1 hg2 hrb hbm hbl hoa na ma
    go_wp2_with fail
    go_ret
    exact ⟨rfl, OA', oc', w1, v, HF.out.1, HF.out.2.1, HF.out.2.2, rfl⟩

end Go.Proofs.YtkpcepdalegmmaaGreatDoor

/-! PLAIN: a client's greeting. -/
namespace Go.Proofs.YtkpcepdalegmmaaGreatDoor
open Go.RowKit

theorem Cli.apart_ {p sc cn m1 B K : Nat} {pm m2 : Value} {ps : Bool} {sa sb : Value} {IA : Option Addr} {n c : Nat} {inb : List UInt8} {OA : Option Addr} {on oc : Nat} {outb : List UInt8} {w w' : World} (h : Cli p sc cn m1 B K pm m2 ps sa sb IA n c inb OA on oc outb w) {qs : List Nat} (ha : Apart qs w w') (hq : ∀ k ∈ qs, B ≤ k ∧ some k ≠ OA.map (·.block)) :
    Cli p sc cn m1 B K pm m2 ps sa sb IA n c inb OA on oc outb w' := by
  have ho := h.ord
  refine h.next (qs := []) (Keep.of_apart ha (fun k hk => .inr (hq k hk).1) (by omega)) (fun k hk => by cases hk) (ha.blk h.pipe (fun hm => by have := (hq p hm).1; omega)) (fun x => x) ⟨h.nc.1, Nat.le_refl _⟩ (ha.ob h.out (fun ad e hm => (hq _ hm).2 (by rw [e]; rfl)))
/-- 'greet' of a client. -/
def GreetOk (p sc cn m1 B K : Nat) (pm m2 : Value) (sa sb : Value) (n : Nat) (rest : List UInt8) (w : World) (e : Ending) (w' : World) : Prop :=
  e = .returned .nilIface ∧ ∃ IA' c' OA' oc', Cli p sc cn m1 B K pm m2 true sa sb IA' (n - 64) c' rest OA' 64 oc' (greetM 3 0 (padTo [80, 76, 65, 73, 78]) 0) w' ∧ Keep B [p, cn] w w'
set_option maxRecDepth 100000 in
theorem greet (pm : Value) {p sc cn m1 B K : Nat} {m2 : Value} {sa sb : Value} {IA : Option Addr} {n c : Nat} {rest : List UInt8} (w : World)
    (hC : Cli p sc cn m1 B K pm m2 false sa sb IA n c (greetM 3 0 (padTo [80, 76, 65, 73, 78]) 1 ++ rest) none 0 0 [] w) :
    Calls Tryz.prog 39 #[.pointer (some ⟨cn, 0, none⟩), .bool false] w (GreetOk p sc cn m1 B K pm m2 sa sb n rest w) := by
  have c3 := hC.pc.sec
  go_enter Tryz.func39, Tryz.ntmps39
  go_wp2_with fail
  refine (defaultVersion _).mono ?_
  rintro e w1 ⟨rfl, hb1⟩
  have hor0 := hC.ord
  have hC1 := hC.below_ hb1
  have np := nil_PType sc
  have hlen : (preB 3 0 ++ List.replicate 52 0).length = 64 := rfl
  have hor := hC1.ord
  have HC := Lib.hid (⟨hC1, hb1⟩ : _ ∧ _)
  clear hC hC1 hb1 c3
  go_wp2_with (first
    | (with_reducible refine wpl_val (o := ⟨some 11, _, _, _, _, _⟩) rfl (.agg (bv (g0 3 0)).toArray) ?_ ?_
       · simp only [execOp, List.map_toArray, List.map_cons, List.map_nil, Act.eval]
         have hbg := build_greeting 3 0 w1
         rw [show ((3 : UInt8).toNat : Int) = 3 from rfl, show ((0 : UInt8).toNat : Int) = 0 from rfl] at hbg
         simp [hbg]
       skip)
    | (with_reducible refine wpl_allocB (o := ⟨some 6, _, _, _, _, _⟩) rfl _ rfl z64 64 info_greeting ?_
       intro w1' hb1' hbl1' hs1'
       refine wpl_storeB (o := ⟨none, .store 86 (.tmp 6) (.tmp 11), _, _, _, _⟩) rfl _ _ _ rfl w1.heap.size z64 (g0 3 0) ?_ ?_ hb1' (g0_length _ _) ?_ ?_
       · rfl
       · rfl
       · exact (zero_of_info info_greeting).2
       intro w2 hb2 ha2 hs2
       have hbl2 : Below w1.heap.size w1 w2 := hbl1'.trans (ha2.below hbl1'.size (by simp))
       have k0 := hb2.cell (i := 0) (by rw [g0_length]; decide)
       have k9 := hb2.cell (i := 9) (by rw [g0_length]; decide)
       have f0 := hb2.frozen 0
       have f9 := hb2.frozen 9
       have hb3 : BB ((w2.setCell ⟨w1.heap.size, 0, none⟩ (.int .u8 255)).setCell ⟨w1.heap.size, 9, none⟩ (.int .u8 127)) w1.heap.size 86 (((g0 3 0).set 0 255).set 9 127) := (hb2.set 0 255).set 9 127
       rw [g0_set] at hb3
       have hbl3 := below_setN (o := 9) (below_setN (o := 0) hbl2 (Nat.le_refl _) (.int .u8 255)) (Nat.le_refl _) (.int .u8 127)
       have hC3 := HC.out.1.below_ hbl3
       have c3 := hC3.pc.sec
       have mp := plain_Type sc sa sb _ hC3.secb
       have HG3 := Lib.hid (⟨hb3, hbl3, hC3⟩ : _ ∧ _ ∧ _)
       clear hs2 hs1' ha2 hbl1' hb1' hbl2 hb3 hbl3 hC3 hb2))
  generalize (w2.setCell ⟨w1.heap.size, 0, none⟩ (.int .u8 255)).setCell ⟨w1.heap.size, 9, none⟩ (.int .u8 127) = W3 at *
  refine (PType sa sb _).mono ?_
  rintro e w4 ⟨rfl, hb4⟩
  have hC4 := HG3.out.2.2.below_ hb4
  have hb4g : BB w4 w1.heap.size 86 (preB 3 0 ++ List.replicate 52 0) := BB.after HG3.out.1 hb4 (Nat.le_refl _)
  have hbl4 : Below w1.heap.size w1 w4 := below_seq HG3.out.2.1 hb4 HG3.out.2.1.size
  have H4 := Lib.hid (⟨hC4, hb4g, hbl4⟩ : _ ∧ _ ∧ _)
  clear hC4 hb4g hbl4 hb4 HG3 k0 k9 f0 f9 c3 mp
  go_wp2_with (first
    | (with_reducible refine wpl_copyB (o := ⟨some 28, _, _, _, _, _⟩) rfl (.tmp 26) (.tmp 27) 9 rfl w1.heap.size 12 20 20 86 (.string ⟨#[80, 76, 65, 73, 78]⟩) (⟨#[80, 76, 65, 73, 78]⟩ : ByteArray).size (preB 3 0 ++ List.replicate 52 0) (⟨#[80, 76, 65, 73, 78]⟩ : ByteArray).data.toList (⟨#[80, 76, 65, 73, 78]⟩ : ByteArray).size ?_ ?_ ?_ (lenOf_string (⟨#[80, 76, 65, 73, 78]⟩ : ByteArray)) ?_ (first_string (⟨#[80, 76, 65, 73, 78]⟩ : ByteArray) _) ?_ ?_ ?_
       · rfl
       · rfl
       · exact H4.out.2.1
       · exact Nat.min_eq_left (by decide)
       · rfl
       · decide
       intro w5 hb5 ha5 hs5
       rw [pre_splice 3 0 (⟨#[80, 76, 65, 73, 78]⟩ : ByteArray).data.toList (by decide)] at hb5
       have hb5 : BB w5 w1.heap.size 86 (greetM 3 0 (padTo [80, 76, 65, 73, 78]) 0) := hb5
       have hC5 := H4.out.1.apart_ ha5 (fun k hk => by simp at hk; exact ⟨by omega, by simp⟩)
       have c2 := hC5.pc.rw_
       have hbl5 : Below w1.heap.size w1 w5 := H4.out.2.2.trans (ha5.below H4.out.2.2.size (by simp))
       have H5 := Lib.hid (⟨hC5, hb5, hbl5⟩ : _ ∧ _ ∧ _)
       clear hs5 hC5 hb5 ha5 hbl5))
  refine (GWrite w1.heap.size p B 0 0 (.slice IA n c) none [] (greetM 3 0 (padTo [80, 76, 65, 73, 78]) 0) w5 H5.out.2.1 rfl H5.out.1.pipe H5.out.1.out (by decide) H5.out.1.ord.2.2.2.2).mono ?_
  rintro e w6 ⟨rfl, OA', oc', u6, v6, hov, hbu, hgv, hw6⟩
  rw [marshal_greet (by rfl), List.nil_append, Nat.zero_add] at hov
  rw [Nat.zero_add] at hw6
  have hor5 := H5.out.1.ord
  have hk6 : Keep B [p] w5 w6 := by
    have k1 : Keep B [p] w5 v6 := (Keep.of_below hbu (by omega)).trans (Keep.of_below (below_of_grownBy hgv) (by have := hbu.size; omega))
    refine k1.trans ?_
    rw [hw6]
    exact Keep.of_apart ((Apart.refl [p] v6).setN (.inl (by simp)) _) (fun k hk => .inl hk) (by have := k1.size; omega)
  have hp6 : Blk w6 p 36 #[.slice IA n c, .slice OA' 64 oc'] := by
    rw [hw6]
    exact ((H5.out.1.pipe.after hbu (Nat.le_refl _)).grown hgv (by simp)).set_ 1 _
  have ho6 : OB w6 B OA' 64 oc' (greetM 3 0 (padTo [80, 76, 65, 73, 78]) 0) := by
    rw [hw6]
    exact hov.setN (by omega) _
  have hC6 := H5.out.1.next hk6 (fun k hk => by simp at hk; omega) hp6 (fun x => x) ⟨H5.out.1.nc.1, Nat.le_refl _⟩ ho6
  have hkw6 : Keep B [p] w w6 := ((Keep.of_below HC.out.2 (by omega)).trans (Keep.of_below H5.out.2.2 (by omega))).trans hk6
  have H6 := Lib.hid (⟨hC6, hkw6⟩ : _ ∧ _)
  have hsz6 : B ≤ w6.heap.size := hC6.ord.2.2.2.2
  clear hov hbu hgv hw6 hk6 hp6 ho6 hC6 hkw6 H4 H5 c2
  go_wp2_with (first
    | (with_reducible refine wpl_allocB (o := ⟨some 8, _, _, _, _, _⟩) rfl _ rfl z64 64 info_greeting ?_
       intro w7 hb7 hbl7 hs7
       have hC7 := H6.out.1.below_ hbl7
       have c2 := hC7.pc.rw_
       have H7 := Lib.hid (⟨hC7, hb7, hbl7⟩ : _ ∧ _ ∧ _)
       clear hC7 hb7 hbl7 hs7))
  have hln : (greetM 3 0 (padTo [80, 76, 65, 73, 78]) 1).length = 64 := rfl
  have hnl : 64 ≤ n := by
    have h1 := H7.out.1.inb.len
    rw [List.length_append, hln] at h1
    omega
  have hor7 := H7.out.1.ord
  have hnc7 := H7.out.1.nc
  refine (gread_more w6.heap.size p IA n c (.slice OA' 64 oc') _ (greetM 3 0 (padTo [80, 76, 65, 73, 78]) 1) w7 H7.out.2.1 H7.out.1.pipe (H7.out.1.inb.more (by omega)) hnl (by omega) (by rw [← hln, List.take_left]) hln (by omega) rfl rfl rfl (.inl rfl)).mono ?_
  rintro e w8 ⟨rfl, hb8, hp8, ha8⟩
  rw [marshal_greet (by rfl)] at hb8
  have hk8 : Keep B [p] w7 w8 := Keep.of_apart ha8 (fun k hk => by simp at hk; rcases hk with rfl | rfl; exact .inr hsz6; exact .inl (by simp)) (by omega)
  have ho8 : OB w8 B OA' 64 oc' (greetM 3 0 (padTo [80, 76, 65, 73, 78]) 0) := ha8.ob H7.out.1.out (fun ad e => by
    have h1 := (H6.out.1.out.block e)
    simp
    omega)
  have hC8 := H7.out.1.next hk8 (fun k hk => by simp at hk; omega) hp8 (fun h => by
    have h1 := h.cutEnd (lo := 64) hnl hnc7.1
    rw [← hln, List.drop_left, hln] at h1
    exact h1) ⟨by omega, by omega⟩ ho8
  have hkw8 : Keep B [p] w w8 := H6.out.2.trans ((Keep.of_below H7.out.2.2 hsz6).trans hk8)
  have c32 := hb8.cell (i := 32) (by rw [greetM_length (by rfl)]; decide)
  have H8 := Lib.hid (⟨hC8, hb8, hkw8⟩ : _ ∧ _ ∧ _)
  clear hk8 ho8 hC8 hkw8 hp8 ha8 hb8 c2
  go_wp2_with fail
  refine (asString_greet w6.heap.size 86 0 1 [80, 76, 65, 73, 78] (by decide) (by intro x hx; simp at hx; rcases hx with rfl | rfl | rfl | rfl | rfl <;> decide) w8 H8.out.2.1).mono ?_
  rintro e w9 ⟨rfl, rfl⟩
  have hab : Calls Tryz.prog 58 #[.int .u8 1] w8 fun e w' => e = .returned (.tuple #[.bool true, .nilIface]) ∧ w8 = w' := asBool_ok 1 true rfl w8
  have c32' : w8.cell? ⟨w6.heap.size, 32, none⟩ = some (.int .u8 1) := c32
  have q6 := H8.out.1.conn.cell 6
  have q6f := H8.out.1.conn.frozen 6
  have q6' : w8.cell? ⟨cn, 6, none⟩ = some (.bool false) := q6
  clear c32 q6
  go_wp2_with fail
  refine hab.mono ?_
  rintro e w10 ⟨rfl, rfl⟩
  go_wp2_with fail
  have hC8 := H8.out.1
  have hor8 := hC8.ord
  have hcs : Blk (w8.setCell ⟨cn, 6, none⟩ (.bool true)) cn 65 (pcells p sc m1 pm m2 true) := hC8.conn.set_ 6 (.bool true)
  have hF : GreetOk p sc cn m1 B K pm m2 sa sb n rest w (.returned .nilIface) (w8.setCell ⟨cn, 6, none⟩ (.bool true)) :=
    ⟨rfl, _, _, OA', oc', ⟨hcs, hC8.secb.farN (by omega) _, hC8.pipe.farN (by omega) _, hC8.inb.setCell (p := ⟨cn, 6, none⟩) (by simp only; omega) _, hC8.nc, hC8.out.setN (by omega) _, by rw [World.size_setCell]; omega⟩,
      (H8.out.2.2.more (fun k hk => by simp at hk; simp [hk])).trans (Keep.of_apart ((Apart.refl [cn] w8).setN (.inl (by simp)) _) (fun k hk => by simp at hk; exact .inl (by simp [hk])) (by omega))⟩
  go_ret
  exact hF
end Go.Proofs.YtkpcepdalegmmaaGreatDoor

/-! A slice expression that panics: the world moves by draws alone. -/
namespace Go.Proofs.YtkpcepdalegmmaaGreatDoor
open Go.RowKit

section
variable {P : Program} {w : World}
theorem run_boundsPanicN {α : Type} (k : IntKind) (x y : Int) (code : BoundsCode) :
    ∃ s n, (boundsPanic k x y code : Sem α).run P w = .halt (.panic (boundsValue P (IntKind.i64.wrap x) y s code.toNat)) (w.drewN n) := by
  unfold boundsPanic boundsValue
  split
  · exact ⟨_, 1, by simp [runtimePanic, goPanic, go_sem]; exact ⟨rfl, rfl⟩⟩
  · exact ⟨_, 0, by simp [runtimePanic, goPanic, go_sem]; exact ⟨rfl, rfl⟩⟩
theorem run_sliceBound_panicsN (k : IntKind) (i : Int) (y : Nat) (code : BoundsCode) (ho : i < 0 ∨ (y : Int) < i) :
    ∃ s n, (Instr.sliceBound (.int k i) y code).run P w = .halt (.panic (boundsValue P (IntKind.i64.wrap i) y s code.toNat)) (w.drewN n) := by
  have hn : ¬ (0 ≤ i ∧ i ≤ (y : Int)) := by omega
  have e1 : (Instr.sliceBound (.int k i) y code).run P w = (boundsPanic k i y code).run P w := by
    simp [Instr.sliceBound, asIntOf, hn, go_sem]
  rw [e1]
  exact run_boundsPanicN k i y code
theorem run_sliceBounds_high_outN (isSlice : Bool) (len cap : Nat) (low : Option Value) (k : IntKind) (h : Int) (ho : h < 0 ∨ (cap : Int) < h) :
    ∃ s n, (Instr.sliceBounds isSlice len cap low (some (.int k h)) none).run P w = .halt (.panic (boundsValue P (IntKind.i64.wrap h) cap s (if isSlice then 2 else 1))) (w.drewN n) := by
  obtain ⟨s, n, e⟩ := run_sliceBound_panicsN (P := P) (w := w) k h cap (if isSlice then .sliceAcap else .sliceAlen) ho
  have hn : ¬ (0 ≤ h ∧ h ≤ (cap : Int)) := by omega
  refine ⟨s, n, ?_⟩
  cases isSlice
  · simp [Instr.sliceBounds, go_sem] at e ⊢
    rw [if_neg hn] at e ⊢
    rw [e]
    rfl
  · simp [Instr.sliceBounds, go_sem] at e ⊢
    rw [if_neg hn] at e ⊢
    rw [e]
    rfl
theorem run_slice_high_panics (t e : TypeId) (ht : P.underlying t = some (.slice e)) (a : Option Addr) (len cap : Nat) (low : Option Value) (k : IntKind) (h : Int) (ho : h < 0 ∨ (cap : Int) < h) :
    ∃ pv n, (Instr.slice t (.slice a len cap) low (some (.int k h)) none).run P w = .halt (.panic (.iface P.rt.boundsError pv)) (w.drewN n) := by
  obtain ⟨s, n, e1⟩ := run_sliceBounds_high_outN (P := P) (w := w) true len cap low k h ho
  exact ⟨_, n, run_slice_of_bounds t e a len cap low (some (.int k h)) none ht e1⟩
end
end Go.Proofs.YtkpcepdalegmmaaGreatDoor
