/- Parts of a proof, laid behind one another: Frames: ZZSend. PLAIN: (*Conn).send of a command. Commands: the walks of spec.Name, spec.Command. Commands: the walks of (*Cmd).marshalZMTP, ZZCommand. -/
import Derived.Test.YtkpcepdalegmmaaGreatDoorM15
import Derived.Test.YtkpcepdalegmmaaGreatDoorM07
import Derived.Deep.RegionHeld3
import Derived.Test.YtkpcepdalegmmaaGreatDoorM02
/-! Frames: ZZSend. -/
namespace Go.Proofs.YtkpcepdalegmmaaGreatDoor
open Go.RowKit

/-- (*Conn).send, whatever the frame. -/
theorem send_any (cmd more : Bool) (cn p base on oc m c : Nat) (iv : Value) (OA A : Option Addr) (ob l : List UInt8) (w : World) (hp : Blk w p 36 #[iv, .slice OA on oc]) (ho : OB w base OA on oc ob) (hr : RB w w.heap.size A m l) (hm : m ≤ 1000) (hsz : on ≤ 1099511627776) (hcn : IsConn w cn p) (hpb : p < cn) (hcb : cn < base) (hb : base ≤ w.heap.size)
    (hA : ∀ ad, A = some ad → ad.block ≠ p ∧ some ad.block ≠ OA.map (·.block)) :
    Calls Tryz.prog 52 #[.pointer (some ⟨cn, 0, none⟩), .bool cmd, .slice A m c, .int .u8 (if more = true then 1 else 0)] w (Sent w base p on iv OA ob (headF cmd more m ++ l)) := by
  by_cases h : m ≤ 255
  · cases cmd <;> cases more
    · exact send_s00 cn p base on oc m c iv OA A ob l w hp ho hr h hsz hcn hpb hcb hb hA
    · exact send_s01 cn p base on oc m c iv OA A ob l w hp ho hr h hsz hcn hpb hcb hb hA
    · exact send_s10 cn p base on oc m c iv OA A ob l w hp ho hr h hsz hcn hpb hcb hb hA
    · exact send_s11 cn p base on oc m c iv OA A ob l w hp ho hr h hsz hcn hpb hcb hb hA
  · cases cmd <;> cases more
    · exact send_l00 cn p base on oc m c iv OA A ob l w hp ho hr ⟨h, hm⟩ hsz hcn hpb hcb hb hA
    · exact send_l01 cn p base on oc m c iv OA A ob l w hp ho hr ⟨h, hm⟩ hsz hcn hpb hcb hb hA
    · exact send_l10 cn p base on oc m c iv OA A ob l w hp ho hr ⟨h, hm⟩ hsz hcn hpb hcb hb hA
    · exact send_l11 cn p base on oc m c iv OA A ob l w hp ho hr ⟨h, hm⟩ hsz hcn hpb hcb hb hA

set_option maxRecDepth 100000 in
theorem ZZSend (cmd more : Bool) (cn p base on oc m c : Nat) (iv : Value) (OA A : Option Addr) (ob l : List UInt8) (w : World) (hp : Blk w p 36 #[iv, .slice OA on oc]) (ho : OB w base OA on oc ob) (hr : RB w w.heap.size A m l) (hm : m ≤ 1000) (hsz : on ≤ 1099511627776) (hcn : IsConn w cn p) (hpb : p < cn) (hcb : cn < base) (hb : base ≤ w.heap.size)
    (hA : ∀ ad, A = some ad → ad.block ≠ p ∧ some ad.block ≠ OA.map (·.block)) :
    Calls Tryz.prog 38 #[.pointer (some ⟨cn, 0, none⟩), .bool cmd, .slice A m c, .bool more] w (Sent w base p on iv OA ob (headF cmd more m ++ l)) := by
  have hs := Lib.hid (send_any cmd more cn p base on oc m c iv OA A ob l w hp ho hr hm hsz hcn hpb hcb hb hA)
  clear hp ho hr hcn hA hm hsz
  cases more
  · go_enter Tryz.func38, Tryz.ntmps38
    go_wp2_with fail
    refine (hs.out).mono ?_
    intro e w' h
    obtain rfl := h.1
    have HF := Lib.hid h
    clear h hs
    go_wp2_with fail
    go_ret
    exact HF.out
  · go_enter Tryz.func38, Tryz.ntmps38
    go_wp2_with fail
    refine (hs.out).mono ?_
    intro e w' h
    obtain rfl := h.1
    have HF := Lib.hid h
    clear h hs
    go_wp2_with fail
    go_ret
    exact HF.out
end Go.Proofs.YtkpcepdalegmmaaGreatDoor

/-! PLAIN: (*Conn).send of a command. -/
namespace Go.Proofs.YtkpcepdalegmmaaGreatDoor
open Go.RowKit

set_option maxRecDepth 100000 in
theorem PEncrypt (p base on oc m c B : Nat) (iv : Value) (OA A : Option Addr) (ob l : List UInt8) (sa sb : Value) (w : World) (hp : Blk w p 36 #[iv, .slice OA on oc]) (ho : OB w base OA on oc ob) (hr : RB w B A m l) (hB : B ≤ w.heap.size) (hsz : on + m ≤ 70368744177664) (hb : base ≤ w.heap.size) :
    Calls Tryz.prog 130 #[.agg #[sa, sb], .iface 34 (.pointer (some ⟨p, 0, none⟩)), .slice A m c] w fun e w' => e = .returned (.tuple #[.int .i64 m, .nilIface]) ∧ ∃ OA' oc' u v, OB v base OA' (on + m) oc' (ob ++ l) ∧ Below w.heap.size w u ∧ u.grownBy v (OA.map (·.block)) ∧ w' = v.setCell ⟨p, 1, none⟩ (.slice OA' (on + m) oc') := by
  have na := nil_Write ⟨p, 0, none⟩
  have ma := method_Write ⟨p, 0, none⟩
  go_enter Tryz.func130, Tryz.ntmps130
  go_wp2_with fail
  refine (Write_any p base on oc m c B iv OA A ob l _ (hp.alloc _) (ho.alloc _) (hr.alloc hB _) hsz (by rw [World.size_alloc]; omega)).mono ?_
  rintro e w2 ⟨rfl, OA', oc', v, hov, hg, _, rfl⟩
  go_wp2_with fail
  go_ret2
  exact ⟨rfl, OA', oc', _, v, hov, (Below.refl _ _).alloc (Nat.le_refl _) _, hg, rfl⟩

/-- Where a send stands. -/
structure PSendSt (ps : List Nat) (w0 : World) (cn p sc base on oc m : Nat) (sa sb : Value) (iv : Value) (OA A : Option Addr) (ob l : List UInt8) (w : World) : Prop where
  pipe : Blk w p 36 #[iv, .slice OA on oc]
  own : OB w base OA on oc ob
  body : RB w w0.heap.size A m l
  conn : PConn w cn p sc sa sb
  kept : Apart ps w0 w
  row : ∀ g, OA.map (·.block) = some g → g ∈ ps ∨ w0.heap.size ≤ g
  pin : p ∈ ps
  bsz : base ≤ w.heap.size
  old : w0.heap.size ≤ w.heap.size
  order : p < cn ∧ cn < base ∧ p < sc ∧ sc < base
section
variable {ps : List Nat} {w0 w : World} {cn p sc base on oc m : Nat} {sa sb : Value} {iv : Value} {OA A : Option Addr} {ob l : List UInt8}
theorem PSendSt.start (hp : Blk w0 p 36 #[iv, .slice OA on oc]) (ho : OB w0 base OA on oc ob) (hr : RB w0 w0.heap.size A m l) (hcn : PConn w0 cn p sc sa sb) (hW : Below w0.heap.size w0 w) (hcb : cn < base) (hpb : p < cn) (hps : p < sc) (hsb : sc < base) (hb : base ≤ w0.heap.size) :
    PSendSt (sendBlocks p OA) w0 cn p sc base on oc m sa sb iv OA A ob l w :=
  ⟨hp.after hW (Nat.le_refl _), ho.below_ hW, hr.below hW, hcn.after hW (Nat.le_refl _), Apart.of_below hW, fun g e => .inl (by simp [sendBlocks, e]), by simp [sendBlocks], Nat.le_trans hb hW.size, hW.size, hpb, hcb, hps, hsb⟩
theorem PSendSt.write (h : PSendSt ps w0 cn p sc base on oc m sa sb iv OA A ob l w) (hA : ∀ ad, A = some ad → ad.block ≠ p ∧ some ad.block ≠ OA.map (·.block)) {v : World} {OA' : Option Addr} {on' oc' : Nat} {hd : List UInt8} (hov : OB v base OA' on' oc' (ob ++ hd)) (hg : w.drew.grownBy v (OA.map (·.block))) (ha : OA' = OA ∨ OA' = some ⟨w.drew.heap.size, 0, none⟩) :
    PSendSt ps w0 cn p sc base on' oc' m sa sb iv OA' A (ob ++ hd) l (v.setCell ⟨p, 1, none⟩ (.slice OA' on' oc')) := by
  have ho := h.order
  have hg' : w.grownBy v (OA.map (·.block)) := ⟨hg.os, hg.tape, hg.output, hg.size, hg.block⟩
  have hsz := hg'.size
  refine ⟨(h.pipe.grown hg' (h.own.row_low (by omega))).set_ 1 _, hov.setN (by omega) _, ⟨h.body.1, fun h0 => ?_⟩, (h.conn.grown hg' (h.own.row_low (by omega)) (h.own.row_low (by omega))).farN (by omega) (by omega) _, (h.kept.grown_ hg' h.row).setN (.inl h.pin) _, ?_, h.pin, by rw [World.size_setCell]; exact Nat.le_trans h.bsz hsz, by rw [World.size_setCell]; exact Nat.le_trans h.old hsz, ho⟩
  rotate_left
  · intro g e
    rcases ha with rfl | rfl
    · exact h.row g e
    · simp only [Option.map_some, Option.some.injEq] at e
      have := h.old
      simp only [World.drew] at e
      exact .inr (by omega)
  obtain ⟨ad, e, hb, hc⟩ := h.body.2 h0
  obtain ⟨n1, n2⟩ := hA ad e
  refine ⟨ad, e, hb, fun j u hu => ?_⟩
  rw [World.cell?_setCell_other _ _ _ _ (fun e2 => by have e3 := congrArg Addr.block e2; rw [block_of_add] at e3; exact n1 e3.symm)]
  refine (World.cell?_of_block (hg'.block _ (by rw [block_of_add]; have := h.old; omega) (fun e2 => ?_))).trans (hc j u hu)
  rw [block_of_add] at e2
  exact n2 e2
theorem PSendSt.fin {hd : List UInt8} {k : Nat} (h : PSendSt ps w0 cn p sc base (on + k) oc m sa sb iv OA A (ob ++ hd) l w) (hk : hd.length = k) {u v : World} {OA' : Option Addr} {oc' : Nat} (hov : OB v base OA' (on + k + m) oc' (ob ++ hd ++ l)) (hb : Below w.heap.size w.drew u) (hg : u.grownBy v (OA.map (·.block))) :
    let V := v.setCell ⟨p, 1, none⟩ (.slice OA' (on + k + m) oc')
    PConn V cn p sc sa sb ∧ (∀ OA0, ps = sendBlocks p OA0 → Sent w0 base p on iv OA0 ob (hd ++ l) (.returned .nilIface) V) := by
  have ho := h.order
  have hb' : Below w.heap.size w u := ⟨hb.os, hb.tape, hb.output, hb.size, hb.block⟩
  have hcn : PConn (v.setCell ⟨p, 1, none⟩ (.slice OA' (on + k + m) oc')) cn p sc sa sb := ((h.conn.after hb' (Nat.le_refl _)).grown hg (h.own.row_low (by omega)) (h.own.row_low (by omega))).farN (by omega) (by omega) _
  refine ⟨hcn, ?_⟩
  rintro OA0 rfl
  refine ⟨rfl, OA', on + k + m, oc', ?_, ?_, ?_, ?_⟩
  · exact ((h.pipe.after hb' (Nat.le_refl _)).grown hg (h.own.row_low (by omega))).set_ 1 _
  · rw [← List.append_assoc]
    exact hov.setN (by omega) _
  · rw [List.length_append, hk, h.body.len]
    omega
  · exact ((h.kept.trans (Apart.of_below hb')).grown_ hg h.row).setN (.inl h.pin) _
end
set_option maxRecDepth 100000 in
set_option maxHeartbeats 8000000 in
theorem psend_s (cn p sc base on oc m c : Nat) (sa sb : Value) (iv : Value) (OA A : Option Addr) (ob l : List UInt8) (w : World) (hp : Blk w p 36 #[iv, .slice OA on oc]) (ho : OB w base OA on oc ob) (hr : RB w w.heap.size A m l) (hm : m ≤ 255) (hsz : on ≤ 1099511627776) (hcn : PConn w cn p sc sa sb) (hpb : p < cn) (hcb : cn < base) (hps : p < sc) (hsb : sc < base) (hb : base ≤ w.heap.size)
    (hA : ∀ ad, A = some ad → ad.block ≠ p ∧ some ad.block ≠ OA.map (·.block)) :
    Calls Tryz.prog 52 #[.pointer (some ⟨cn, 0, none⟩), .bool true, .slice A m c, .int .u8 0] w (Sent w base p on iv OA ob (headF true false m ++ l)) := by
  have na := nil_Write ⟨p, 0, none⟩
  have ma := method_Write ⟨p, 0, none⟩
  have ne := nil_PEncrypt sc
  have hx : bits .xor .u8 0 4 = 4 := by kernel_rfl
  have hd : decide ((255 : Int) < (m : Int)) = false := by rw [decide_eq_false_iff_not]; omega
  have HX := Lib.hid (⟨hp, ho, hr, hcn, hA⟩ : _ ∧ _ ∧ _ ∧ _ ∧ _)
  clear hp ho hr hcn hA
  go_enter Tryz.func52, Tryz.ntmps52
  go_wp2_with fail
  have hB : BB (w.alloc (.cells #[.int .u8 4, .int .u8 (m : Int), .int .u8 0, .int .u8 0, .int .u8 0, .int .u8 0, .int .u8 0, .int .u8 0, .int .u8 0] 154)) w.heap.size 154 (flagU true false :: UInt8.ofNat m :: [0, 0, 0, 0, 0, 0, 0]) := by
    have h := BB.mk w 154 (flagU true false :: UInt8.ofNat m :: [0, 0, 0, 0, 0, 0, 0])
    have e : ((UInt8.ofNat m).toNat : Int) = (m : Int) := by
      have : (UInt8.ofNat m).toNat = m := by simp; omega
      rw [this]
    simp only [bv, List.map_cons, e] at h
    exact h
  have hWB : Below w.heap.size w (w.alloc (.cells #[.int .u8 4, .int .u8 (m : Int), .int .u8 0, .int .u8 0, .int .u8 0, .int .u8 0, .int .u8 0, .int .u8 0, .int .u8 0] 154)) := (Below.refl _ w).alloc (Nat.le_refl _) _
  generalize (w.alloc (.cells #[.int .u8 4, .int .u8 (m : Int), .int .u8 0, .int .u8 0, .int .u8 0, .int .u8 0, .int .u8 0, .int .u8 0, .int .u8 0] 154)) = W at hB hWB ⊢
  have hH := hB.rb (o := 0) (n := 2) (by simp)
  have eH : ((flagU true false :: UInt8.ofNat m :: [0, 0, 0, 0, 0, 0, 0]).drop 0).take 2 = headF true false m := by rw [headF_small hm]; rfl
  rw [eH] at hH
  have eL : (headF true false m).length = 2 := by rw [headF_small hm]; rfl
  have EL := Lib.hid eL
  clear eL eH hB hd
  have hsW := hWB.size
  have HY := Lib.hid (PSendSt.start HX.out.1 HX.out.2.1 HX.out.2.2.1 HX.out.2.2.2.1 hWB hcb hpb hps hsb hb)
  have c2 := HY.out.conn.rw_
  have HA := Lib.hid HX.out.2.2.2.2
  clear HX
  go_region_held3 (fun V => V.cell? ⟨cn, 2, none⟩ = some (.iface 34 (.pointer (some ⟨p, 0, none⟩)))) ((first | exact c2 | assumption))
    (first
      | (go_at_call 125
         refine (Write_any p base on oc 2 9 W.heap.size iv OA (some ⟨w.heap.size, 0, none⟩) ob (headF true false m) _ HY.out.pipe.drew HY.out.own.drew hH.drew (by omega) (by have := HY.out.bsz; simp; omega)).mono ?_
         rintro e w2 ⟨rfl, OA', oc', v, hov, hg, hoa, rfl⟩
         have HZ := Lib.hid (HY.out.write HA.out hov hg hoa)
         have d2 := HZ.out.conn.rw_))
  rename_i aK _
  refine aK _ _ ?_
  clear hH c2 na ma hov hg hoa HY
  have c2 := HZ.out.conn.rw_
  have c3 := HZ.out.conn.sec
  have hsec := HZ.out.conn.2
  have cm := plain_Encrypt sc sa sb _ hsec.drew
  clear hsec
  have hpb2 := HZ.out.bsz
  clear d2
  generalize v.setCell ⟨p, 1, none⟩ (.slice OA' (on + 2) oc') = W2 at HZ c2 c3 cm hpb2 ⊢
  go_wp2_with fail
  go_region_held3 (fun V => V.cell? ⟨cn, 2, none⟩ = some (.iface 34 (.pointer (some ⟨p, 0, none⟩))) ∧ V.cell? ⟨cn, 3, none⟩ = some (.iface 68 (.pointer (some ⟨sc, 0, none⟩))) ∧ (method 318 68 (.pointer (some ⟨sc, 0, none⟩)) "Encrypt").run Tryz.prog V = .ok (130, .agg #[sa, sb]) V) ((first | exact ⟨c2, c3, cm⟩ | exact ⟨by assumption, by assumption, by assumption⟩))
    (first
      | (go_at_call 130
         refine (PEncrypt p base (on + 2) oc' m c w.heap.size iv OA' A _ l sa sb _ HZ.out.pipe.drew HZ.out.own.drew HZ.out.body.drew (by have := HZ.out.old; simp; omega) (by omega) (by simp; omega)).mono ?_
         rintro e w3 ⟨rfl, OA2, oc2, u, v2, hov2, hbl2, hg2, rfl⟩
         have HV := Lib.hid (HZ.out.fin EL.out hov2 (by simpa using hbl2) hg2)
         have hsec2 := plain_Encrypt sc sa sb _ HV.out.1.2
         have d2 := HV.out.1.rw_
         have d3 := HV.out.1.sec))
  rename_i aK _
  refine aK _ _ ?_
  have hF := HV.out.2 _ rfl
  clear HV HZ hov2 hbl2 hg2 d2 d3 c2 c3 hsec2
  generalize v2.setCell ⟨p, 1, none⟩ (.slice OA2 (on + 2 + m) oc2) = W3 at hF ⊢
  go_wp2_with fail
  go_ret
  exact hF

set_option maxRecDepth 100000 in
set_option maxHeartbeats 8000000 in
theorem psend_l (cn p sc base on oc m c : Nat) (sa sb : Value) (iv : Value) (OA A : Option Addr) (ob l : List UInt8) (w : World) (hp : Blk w p 36 #[iv, .slice OA on oc]) (ho : OB w base OA on oc ob) (hr : RB w w.heap.size A m l) (hm : ¬ m ≤ 255 ∧ m ≤ 1000) (hsz : on ≤ 1099511627776) (hcn : PConn w cn p sc sa sb) (hpb : p < cn) (hcb : cn < base) (hps : p < sc) (hsb : sc < base) (hb : base ≤ w.heap.size)
    (hA : ∀ ad, A = some ad → ad.block ≠ p ∧ some ad.block ≠ OA.map (·.block)) :
    Calls Tryz.prog 52 #[.pointer (some ⟨cn, 0, none⟩), .bool true, .slice A m c, .int .u8 0] w (Sent w base p on iv OA ob (headF true false m ++ l)) := by
  have na := nil_Write ⟨p, 0, none⟩
  have ma := method_Write ⟨p, 0, none⟩
  have ne := nil_PEncrypt sc
  obtain ⟨hm, hm2⟩ := hm
  have hd : decide ((255 : Int) < (m : Int)) = true := by rw [decide_eq_true_eq]; omega
  have HX := Lib.hid (⟨hp, ho, hr, hcn, hA⟩ : _ ∧ _ ∧ _ ∧ _ ∧ _)
  clear hp ho hr hcn hA
  go_enter Tryz.func52, Tryz.ntmps52
  go_wp2_with fail
  refine (bePutUint64 w.heap.size m 154 (longU true false) _ (BB.mk w 154 (longU true false :: noughts8)) hm2).mono ?_
  rintro e W ⟨rfl, hB, haB, hsB⟩
  have hWB : Below w.heap.size w W := ((Below.refl _ w).alloc (Nat.le_refl _) _).trans (haB.below (by simp) (by simp))
  clear haB hsB
  have hH := hB.rb (o := 0) (n := 9) (by simp [be8])
  have eH : ((longU true false :: be8 m).drop 0).take 9 = headF true false m := by rw [headF_long hm]; rfl
  rw [eH] at hH
  have eL : (headF true false m).length = 9 := by rw [headF_long hm]; rfl
  go_wp2_with fail
  have EL := Lib.hid eL
  clear eL eH hB hd
  have hsW := hWB.size
  have HY := Lib.hid (PSendSt.start HX.out.1 HX.out.2.1 HX.out.2.2.1 HX.out.2.2.2.1 hWB hcb hpb hps hsb hb)
  have c2 := HY.out.conn.rw_
  have HA := Lib.hid HX.out.2.2.2.2
  clear HX
  go_region_held3 (fun V => V.cell? ⟨cn, 2, none⟩ = some (.iface 34 (.pointer (some ⟨p, 0, none⟩)))) ((first | exact c2 | assumption))
    (first
      | (go_at_call 125
         refine (Write_any p base on oc 9 9 W.heap.size iv OA (some ⟨w.heap.size, 0, none⟩) ob (headF true false m) _ HY.out.pipe.drew HY.out.own.drew hH.drew (by omega) (by have := HY.out.bsz; simp; omega)).mono ?_
         rintro e w2 ⟨rfl, OA', oc', v, hov, hg, hoa, rfl⟩
         have HZ := Lib.hid (HY.out.write HA.out hov hg hoa)
         have d2 := HZ.out.conn.rw_))
  rename_i aK _
  refine aK _ _ ?_
  clear hH c2 na ma hov hg hoa HY
  have c2 := HZ.out.conn.rw_
  have c3 := HZ.out.conn.sec
  have hsec := HZ.out.conn.2
  have cm := plain_Encrypt sc sa sb _ hsec.drew
  clear hsec
  have hpb2 := HZ.out.bsz
  clear d2
  generalize v.setCell ⟨p, 1, none⟩ (.slice OA' (on + 9) oc') = W2 at HZ c2 c3 cm hpb2 ⊢
  go_wp2_with fail
  go_region_held3 (fun V => V.cell? ⟨cn, 2, none⟩ = some (.iface 34 (.pointer (some ⟨p, 0, none⟩))) ∧ V.cell? ⟨cn, 3, none⟩ = some (.iface 68 (.pointer (some ⟨sc, 0, none⟩))) ∧ (method 318 68 (.pointer (some ⟨sc, 0, none⟩)) "Encrypt").run Tryz.prog V = .ok (130, .agg #[sa, sb]) V) ((first | exact ⟨c2, c3, cm⟩ | exact ⟨by assumption, by assumption, by assumption⟩))
    (first
      | (go_at_call 130
         refine (PEncrypt p base (on + 9) oc' m c w.heap.size iv OA' A _ l sa sb _ HZ.out.pipe.drew HZ.out.own.drew HZ.out.body.drew (by have := HZ.out.old; simp; omega) (by omega) (by simp; omega)).mono ?_
         rintro e w3 ⟨rfl, OA2, oc2, u, v2, hov2, hbl2, hg2, rfl⟩
         have HV := Lib.hid (HZ.out.fin EL.out hov2 (by simpa using hbl2) hg2)
         have hsec2 := plain_Encrypt sc sa sb _ HV.out.1.2
         have d2 := HV.out.1.rw_
         have d3 := HV.out.1.sec))
  rename_i aK _
  refine aK _ _ ?_
  have hF := HV.out.2 _ rfl
  clear HV HZ hov2 hbl2 hg2 d2 d3 c2 c3 hsec2
  generalize v2.setCell ⟨p, 1, none⟩ (.slice OA2 (on + 9 + m) oc2) = W3 at hF ⊢
  go_wp2_with fail
  go_ret
  exact hF

end Go.Proofs.YtkpcepdalegmmaaGreatDoor

/-! Commands: the walks of spec.Name, spec.Command. -/
namespace Go.Proofs.YtkpcepdalegmmaaGreatDoor
open Go.RowKit

/-- A command's bytes: its name's length, its name, its data. -/
def cmdBytes (name : ByteArray) (body : List UInt8) : List UInt8 := (UInt8.ofNat name.size :: name.data.toList) ++ body

theorem lit1 (n : Nat) : (#[Value.int .u8 ((n : Int) % 256)]).toList = bv [UInt8.ofNat n] := by simp [bv]

end Go.Proofs.YtkpcepdalegmmaaGreatDoor

/-! Commands: the walks of (*Cmd).marshalZMTP, ZZCommand. -/
namespace Go.Proofs.YtkpcepdalegmmaaGreatDoor
open Go.RowKit

theorem lit1' {n : Nat} (h : n ≤ 255) : (#[Value.int .u8 (n : Int)]).toList = bv [UInt8.ofNat n] := by
  rw [← lit1, Int.emod_eq_of_lt (by omega) (by omega)]

set_option maxHeartbeats 400000 in
theorem marshalZMTP (g : Nat) (name : ByteArray) (body : List UInt8) (A : Option Addr) (m c : Nat) (w : World) (hn : name.size ≤ 255) (hm : m ≤ 2147483647)
    (hg : Blk w g 77 #[.string name, .slice A m c]) (hb : RB w w.heap.size A m body) :
    Calls Tryz.prog 32 #[.pointer (some ⟨g, 0, none⟩)] w fun e w' => ∃ A' c', e = .returned (.tuple #[.slice A' (1 + name.size + m) c', .nilIface]) ∧ OB w' w.heap.size A' (1 + name.size + m) c' (cmdBytes name body) ∧ Below w.heap.size w w' := by
  have c0 := hg.cell 0
  have c1 := hg.cell 1
  have hgl := hg.lt
  simp only [List.getElem?_toArray, List.getElem?_cons_zero, List.getElem?_cons_succ] at c0 c1
  go_enter Tryz.func32, Tryz.ntmps32
  go_wp2_with (first
    | (at_make
       refine wpl_make0 rfl _ _ rfl w.heap.size _ (1 + name.size + m) rfl rfl (by omega) (by omega) (Nat.le_refl _) ?_
       intro w1 ho1 hg1
       have hb1 : Below w.heap.size w w1 := below_of_grownBy hg1
       have d0 := (bcell hb1).1 g 0 hgl
       have d1 := (bcell hb1).1 g 1 hgl
       rw [c0] at d0
       rw [c1] at d1)
    | (at_builtin
       refine wpl_appB rfl (.tmp 23) (.tmp 26) 23 rfl w.heap.size _ 0 _ [] rfl (ho1.alloc _) _ 1 [UInt8.ofNat name.size] rfl ?s1 1 rfl (by omega) ?s2 ?_
       case s1 => exact srcB (OB.lit w1 _ (Nat.le_refl _) _ _ (lit1' hn) 1 rfl (by decide)).rb
       case s2 => have := hb1.size; simp; omega
       intro A2 c2 w2 ho2 hg2 ha2
       have hb2 : Below w.heap.size w w2 := (hb1.alloc hb1.size _).grown hg2 (by have := hb1.size; simp; omega) (fun k hk => ho1.base_le hk)
       have f0 := (bcell hb2).1 g 0 hgl
       have f1 := (bcell hb2).1 g 1 hgl
       rw [c0] at f0
       rw [c1] at f1)
    | (with_reducible refine wpl_ofStr (o := ⟨some 33, _, _, _, _, _⟩) rfl (.tmp 32) rfl name rfl ?_
       intro c3 w3 hr3 hg3 hl3 hs3
       have ho3 := ho2.kept hg3 (fun ad _ => by simp)
       have hb3 : Below w.heap.size w w3 := hb2.grown hg3 hb2.size (fun k hk => by cases hk)
       have i0 := (bcell hb3).1 g 0 hgl
       have i1 := (bcell hb3).1 g 1 hgl
       rw [c0] at i0
       rw [c1] at i1)
    | (at_builtin
       refine wpl_appB rfl (.tmp 28) (.tmp 33) 23 rfl w.heap.size _ 1 _ _ rfl ho3 _ _ _ rfl (srcB hr3) (1 + name.size) rfl (by omega) hb3.size ?_
       intro A4 c4 w4 ho4 hg4 ha4
       have hb4 : Below w.heap.size w w4 := hb3.grown hg4 hb3.size (fun k hk => ho3.base_le hk)
       have j0 := (bcell hb4).1 g 0 hgl
       have j1 := (bcell hb4).1 g 1 hgl
       rw [c0] at j0
       rw [c1] at j1)
    | (at_builtin
       refine wpl_appB rfl (.tmp 35) (.tmp 39) 23 rfl w.heap.size _ (1 + name.size) _ _ rfl ho4 _ _ _ rfl (srcB (hb.below hb4)) (1 + name.size + m) rfl (by omega) hb4.size ?_
       intro A5 c5 w5 ho5 hg5 ha5
       have hb5 : Below w.heap.size w w5 := hb4.grown hg5 hb4.size (fun k hk => ho4.base_le hk)))
  go_ret2
  exact ⟨A5, c5, rfl, ho5, hb5⟩
end Go.Proofs.YtkpcepdalegmmaaGreatDoor
