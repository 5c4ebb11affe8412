/- Parts of a proof, laid behind one another: Frames: (*Conn).send. -/
import Derived.Test.YtkpcepdalegmmaaGreatDoorM14
import Derived.Deep.RegionHeld3
/-! Frames: (*Conn).send. -/
namespace Go.Proofs.YtkpcepdalegmmaaGreatDoor
open Go.RowKit

theorem Apart.grown_ {ps : List Nat} {a b c : World} (h : Apart ps a b) {row : Option Nat} (k : b.grownBy c row) (hr : ∀ g, row = some g → g ∈ ps ∨ a.heap.size ≤ g) : Apart ps a c :=
  ⟨k.os.trans h.os, k.tape.trans h.tape, k.output.trans h.output, Nat.le_trans h.size k.size, fun i hi hn => (k.block i (Nat.lt_of_lt_of_le hi h.size) (fun e => by
    rcases hr i e.symm with h1 | h1
    · exact hn h1
    · omega)).trans (h.block i hi hn)⟩
/-- The blocks that a send may turn. -/
def sendBlocks (p : Nat) (OA : Option Addr) : List Nat := p :: (OA.map (·.block)).toList
/-- What a send leaves. -/
def Sent (w : World) (base p on : Nat) (iv : Value) (OA : Option Addr) (ob add : List UInt8) (e : Ending) (w' : World) : Prop :=
  e = .returned .nilIface ∧ ∃ OA' on' oc', Blk w' p 36 #[iv, .slice OA' on' oc'] ∧ OB w' base OA' on' oc' (ob ++ add) ∧ on' = on + add.length ∧ Apart (sendBlocks p OA) w w'

/-- Where a send stands. -/
structure SendSt (ps : List Nat) (w0 : World) (cn p base on oc m : Nat) (iv : Value) (OA A : Option Addr) (ob l : List UInt8) (w : World) : Prop where
  pipe : Blk w p 36 #[iv, .slice OA on oc]
  own : OB w base OA on oc ob
  body : RB w w0.heap.size A m l
  conn : IsConn w cn p
  kept : Apart ps w0 w
  row : ∀ g, OA.map (·.block) = some g → g ∈ ps ∨ w0.heap.size ≤ g
  pin : p ∈ ps
  bsz : base ≤ w.heap.size
  old : w0.heap.size ≤ w.heap.size
  order : p < cn ∧ cn < base
section
variable {ps : List Nat} {w0 w : World} {cn p base on oc m : Nat} {iv : Value} {OA A : Option Addr} {ob l : List UInt8}
theorem OB.below_ {w w' : World} {n c : Nat} (h : OB w base A n c l) (hb : Below w.heap.size w w') : OB w' base A n c l := (Apart.of_below hb).ob h (ps := []) (fun _ _ => by simp)
theorem OB.row_low {w : World} {n c k : Nat} (h : OB w base A n c l) (hk : k < base) : some k ≠ A.map (·.block) := fun e => by have := h.base_le e.symm; omega
theorem SendSt.start (hp : Blk w0 p 36 #[iv, .slice OA on oc]) (ho : OB w0 base OA on oc ob) (hr : RB w0 w0.heap.size A m l) (hcn : IsConn w0 cn p) (hW : Below w0.heap.size w0 w) (hcb : cn < base) (hpb : p < cn) (hb : base ≤ w0.heap.size) :
    SendSt (sendBlocks p OA) w0 cn p base on oc m iv OA A ob l w :=
  ⟨hp.after hW (Nat.le_refl _), ho.below_ hW, hr.below hW, hcn.after hW (Nat.le_refl _), Apart.of_below hW, fun g e => .inl (by simp [sendBlocks, e]), by simp [sendBlocks], Nat.le_trans hb hW.size, hW.size, hpb, hcb⟩
theorem SendSt.write (h : SendSt ps w0 cn p base on oc m iv OA A ob l w) (hA : ∀ ad, A = some ad → ad.block ≠ p ∧ some ad.block ≠ OA.map (·.block)) {v : World} {OA' : Option Addr} {on' oc' : Nat} {hd : List UInt8} (hov : OB v base OA' on' oc' (ob ++ hd)) (hg : w.drew.grownBy v (OA.map (·.block))) (ha : OA' = OA ∨ OA' = some ⟨w.drew.heap.size, 0, none⟩) :
    SendSt ps w0 cn p base on' oc' m iv OA' A (ob ++ hd) l (v.setCell ⟨p, 1, none⟩ (.slice OA' on' oc')) := by
  have ho := h.order
  have hg' : w.grownBy v (OA.map (·.block)) := ⟨hg.os, hg.tape, hg.output, hg.size, hg.block⟩
  have hsz := hg'.size
  refine ⟨(h.pipe.grown hg' (h.own.row_low (by omega))).set_ 1 _, hov.setN (by omega) _, ⟨h.body.1, fun h0 => ?_⟩, (h.conn.grown hg' (h.own.row_low (by omega))).farN (by omega) _, (h.kept.grown_ hg' h.row).setN (.inl h.pin) _, ?_, h.pin, by rw [World.size_setCell]; exact Nat.le_trans h.bsz hsz, by rw [World.size_setCell]; exact Nat.le_trans h.old hsz, ho⟩
  rotate_left
  · intro g e
    rcases ha with rfl | rfl
    · exact h.row g e
    · simp only [Option.map_some, Option.some.injEq] at e
      have := h.old
      simp only [World.drew] at e
      exact .inr (by omega)
  obtain ⟨ad, e, hb, hc⟩ := h.body.2 h0
  obtain ⟨n1, n2⟩ := hA ad e
  refine ⟨ad, e, hb, fun j u hu => ?_⟩
  rw [World.cell?_setCell_other _ _ _ _ (fun e2 => by have e3 := congrArg Addr.block e2; rw [block_of_add] at e3; exact n1 e3.symm)]
  refine (World.cell?_of_block (hg'.block _ (by rw [block_of_add]; have := h.old; omega) (fun e2 => ?_))).trans (hc j u hu)
  rw [block_of_add] at e2
  exact n2 e2
theorem SendSt.fin {hd : List UInt8} {k : Nat} (h : SendSt ps w0 cn p base (on + k) oc m iv OA A (ob ++ hd) l w) (hk : hd.length = k) {u v : World} {OA' : Option Addr} {oc' : Nat} (hov : OB v base OA' (on + k + m) oc' (ob ++ hd ++ l)) (hb : Below w.heap.size w.drew u) (hg : u.grownBy v (OA.map (·.block))) :
    let V := v.setCell ⟨p, 1, none⟩ (.slice OA' (on + k + m) oc')
    V.cell? ⟨cn, 2, none⟩ = some (.iface 34 (.pointer (some ⟨p, 0, none⟩))) ∧ V.cell? ⟨cn, 3, none⟩ = some (.iface 107 (.agg #[])) ∧ (∀ OA0, ps = sendBlocks p OA0 → Sent w0 base p on iv OA0 ob (hd ++ l) (.returned .nilIface) V) := by
  have ho := h.order
  have hb' : Below w.heap.size w u := ⟨hb.os, hb.tape, hb.output, hb.size, hb.block⟩
  have hcn : IsConn (v.setCell ⟨p, 1, none⟩ (.slice OA' (on + k + m) oc')) cn p := ((h.conn.after hb' (Nat.le_refl _)).grown hg (h.own.row_low (by omega))).farN (by omega) _
  refine ⟨hcn.rw_, hcn.sec, ?_⟩
  rintro OA0 rfl
  refine ⟨rfl, OA', on + k + m, oc', ?_, ?_, ?_, ?_⟩
  · exact ((h.pipe.after hb' (Nat.le_refl _)).grown hg (h.own.row_low (by omega))).set_ 1 _
  · rw [← List.append_assoc]
    exact hov.setN (by omega) _
  · rw [List.length_append, hk, h.body.len]
    omega
  · exact ((h.kept.trans (Apart.of_below hb')).grown_ hg h.row).setN (.inl h.pin) _
end
set_option maxRecDepth 100000 in
set_option maxHeartbeats 8000000 in
theorem send_s00 (cn p base on oc m c : Nat) (iv : Value) (OA A : Option Addr) (ob l : List UInt8) (w : World) (hp : Blk w p 36 #[iv, .slice OA on oc]) (ho : OB w base OA on oc ob) (hr : RB w w.heap.size A m l) (hm : m ≤ 255) (hsz : on ≤ 1099511627776) (hcn : IsConn w cn p) (hpb : p < cn) (hcb : cn < base) (hb : base ≤ w.heap.size)
    (hA : ∀ ad, A = some ad → ad.block ≠ p ∧ some ad.block ≠ OA.map (·.block)) :
    Calls Tryz.prog 52 #[.pointer (some ⟨cn, 0, none⟩), .bool false, .slice A m c, .int .u8 0] w (Sent w base p on iv OA ob (headF false false m ++ l)) := by
  have na := nil_Write ⟨p, 0, none⟩
  have ma := method_Write ⟨p, 0, none⟩
  have ne := nil_Encrypt
  have me := method_Encrypt
  have hd : decide ((255 : Int) < (m : Int)) = false := by rw [decide_eq_false_iff_not]; omega
  have HX := Lib.hid (⟨hp, ho, hr, hcn, hA⟩ : _ ∧ _ ∧ _ ∧ _ ∧ _)
  clear hp ho hr hcn hA
  go_enter Tryz.func52, Tryz.ntmps52
  go_wp2_with fail
  have hB : BB (w.alloc (.cells #[.int .u8 0, .int .u8 (m : Int), .int .u8 0, .int .u8 0, .int .u8 0, .int .u8 0, .int .u8 0, .int .u8 0, .int .u8 0] 154)) w.heap.size 154 (flagU false false :: UInt8.ofNat m :: [0, 0, 0, 0, 0, 0, 0]) := by
    have h := BB.mk w 154 (flagU false false :: UInt8.ofNat m :: [0, 0, 0, 0, 0, 0, 0])
    have e : ((UInt8.ofNat m).toNat : Int) = (m : Int) := by
      have : (UInt8.ofNat m).toNat = m := by simp; omega
      rw [this]
    simp only [bv, List.map_cons, e] at h
    exact h
  have hWB : Below w.heap.size w (w.alloc (.cells #[.int .u8 0, .int .u8 (m : Int), .int .u8 0, .int .u8 0, .int .u8 0, .int .u8 0, .int .u8 0, .int .u8 0, .int .u8 0] 154)) := (Below.refl _ w).alloc (Nat.le_refl _) _
  generalize (w.alloc (.cells #[.int .u8 0, .int .u8 (m : Int), .int .u8 0, .int .u8 0, .int .u8 0, .int .u8 0, .int .u8 0, .int .u8 0, .int .u8 0] 154)) = W at hB hWB ⊢
  have hH := hB.rb (o := 0) (n := 2) (by simp)
  have eH : ((flagU false false :: UInt8.ofNat m :: [0, 0, 0, 0, 0, 0, 0]).drop 0).take 2 = headF false false m := by rw [headF_small hm]; rfl
  rw [eH] at hH
  have eL : (headF false false m).length = 2 := by rw [headF_small hm]; rfl
  have EL := Lib.hid eL
  clear eL eH hB hd
  have hsW := hWB.size
  have HY := Lib.hid (SendSt.start HX.out.1 HX.out.2.1 HX.out.2.2.1 HX.out.2.2.2.1 hWB hcb hpb hb)
  have c2 := HY.out.conn.rw_
  have HA := Lib.hid HX.out.2.2.2.2
  clear HX
  go_region_held3 (fun V => V.cell? ⟨cn, 2, none⟩ = some (.iface 34 (.pointer (some ⟨p, 0, none⟩)))) ((first | exact c2 | assumption))
    (first
      | (go_at_call 125
         refine (Write_any p base on oc 2 9 W.heap.size iv OA (some ⟨w.heap.size, 0, none⟩) ob (headF false false m) _ HY.out.pipe.drew HY.out.own.drew hH.drew (by omega) (by have := HY.out.bsz; simp; omega)).mono ?_
         rintro e w2 ⟨rfl, OA', oc', v, hov, hg, hoa, rfl⟩
         have HZ := Lib.hid (HY.out.write HA.out hov hg hoa)
         have d2 := HZ.out.conn.rw_))
  rename_i aK _
  refine aK _ _ ?_
  clear hH c2 na ma hov hg hoa HY
  have c2 := HZ.out.conn.rw_
  have c3 := HZ.out.conn.sec
  have hpb2 := HZ.out.bsz
  clear d2
  generalize v.setCell ⟨p, 1, none⟩ (.slice OA' (on + 2) oc') = W2 at HZ c2 c3 hpb2 ⊢
  go_wp2_with fail
  go_region_held3 (fun V => V.cell? ⟨cn, 2, none⟩ = some (.iface 34 (.pointer (some ⟨p, 0, none⟩))) ∧ V.cell? ⟨cn, 3, none⟩ = some (.iface 107 (.agg #[]))) ((first | exact ⟨c2, c3⟩ | exact ⟨by assumption, by assumption⟩))
    (first
      | (go_at_call 143
         refine (Encrypt_any p base (on + 2) oc' m c w.heap.size iv OA' A _ l _ HZ.out.pipe.drew HZ.out.own.drew HZ.out.body.drew (by have := HZ.out.old; simp; omega) (by omega) (by simp; omega)).mono ?_
         rintro e w3 ⟨rfl, OA2, oc2, u, v2, hov2, hbl2, hg2, rfl⟩
         have HV := Lib.hid (HZ.out.fin EL.out hov2 (by simpa using hbl2) hg2)
         have d2 := HV.out.1
         have d3 := HV.out.2.1))
  rename_i aK _
  refine aK _ _ ?_
  have hF := HV.out.2.2 _ rfl
  clear HV HZ hov2 hbl2 hg2 d2 d3 c2 c3
  generalize v2.setCell ⟨p, 1, none⟩ (.slice OA2 (on + 2 + m) oc2) = W3 at hF ⊢
  go_wp2_with fail
  go_ret
  exact hF

set_option maxRecDepth 100000 in
set_option maxHeartbeats 8000000 in
theorem send_s01 (cn p base on oc m c : Nat) (iv : Value) (OA A : Option Addr) (ob l : List UInt8) (w : World) (hp : Blk w p 36 #[iv, .slice OA on oc]) (ho : OB w base OA on oc ob) (hr : RB w w.heap.size A m l) (hm : m ≤ 255) (hsz : on ≤ 1099511627776) (hcn : IsConn w cn p) (hpb : p < cn) (hcb : cn < base) (hb : base ≤ w.heap.size)
    (hA : ∀ ad, A = some ad → ad.block ≠ p ∧ some ad.block ≠ OA.map (·.block)) :
    Calls Tryz.prog 52 #[.pointer (some ⟨cn, 0, none⟩), .bool false, .slice A m c, .int .u8 1] w (Sent w base p on iv OA ob (headF false true m ++ l)) := by
  have na := nil_Write ⟨p, 0, none⟩
  have ma := method_Write ⟨p, 0, none⟩
  have ne := nil_Encrypt
  have me := method_Encrypt
  have hd : decide ((255 : Int) < (m : Int)) = false := by rw [decide_eq_false_iff_not]; omega
  have HX := Lib.hid (⟨hp, ho, hr, hcn, hA⟩ : _ ∧ _ ∧ _ ∧ _ ∧ _)
  clear hp ho hr hcn hA
  go_enter Tryz.func52, Tryz.ntmps52
  go_wp2_with fail
  have hB : BB (w.alloc (.cells #[.int .u8 1, .int .u8 (m : Int), .int .u8 0, .int .u8 0, .int .u8 0, .int .u8 0, .int .u8 0, .int .u8 0, .int .u8 0] 154)) w.heap.size 154 (flagU false true :: UInt8.ofNat m :: [0, 0, 0, 0, 0, 0, 0]) := by
    have h := BB.mk w 154 (flagU false true :: UInt8.ofNat m :: [0, 0, 0, 0, 0, 0, 0])
    have e : ((UInt8.ofNat m).toNat : Int) = (m : Int) := by
      have : (UInt8.ofNat m).toNat = m := by simp; omega
      rw [this]
    simp only [bv, List.map_cons, e] at h
    exact h
  have hWB : Below w.heap.size w (w.alloc (.cells #[.int .u8 1, .int .u8 (m : Int), .int .u8 0, .int .u8 0, .int .u8 0, .int .u8 0, .int .u8 0, .int .u8 0, .int .u8 0] 154)) := (Below.refl _ w).alloc (Nat.le_refl _) _
  generalize (w.alloc (.cells #[.int .u8 1, .int .u8 (m : Int), .int .u8 0, .int .u8 0, .int .u8 0, .int .u8 0, .int .u8 0, .int .u8 0, .int .u8 0] 154)) = W at hB hWB ⊢
  have hH := hB.rb (o := 0) (n := 2) (by simp)
  have eH : ((flagU false true :: UInt8.ofNat m :: [0, 0, 0, 0, 0, 0, 0]).drop 0).take 2 = headF false true m := by rw [headF_small hm]; rfl
  rw [eH] at hH
  have eL : (headF false true m).length = 2 := by rw [headF_small hm]; rfl
  have EL := Lib.hid eL
  clear eL eH hB hd
  have hsW := hWB.size
  have HY := Lib.hid (SendSt.start HX.out.1 HX.out.2.1 HX.out.2.2.1 HX.out.2.2.2.1 hWB hcb hpb hb)
  have c2 := HY.out.conn.rw_
  have HA := Lib.hid HX.out.2.2.2.2
  clear HX
  go_region_held3 (fun V => V.cell? ⟨cn, 2, none⟩ = some (.iface 34 (.pointer (some ⟨p, 0, none⟩)))) ((first | exact c2 | assumption))
    (first
      | (go_at_call 125
         refine (Write_any p base on oc 2 9 W.heap.size iv OA (some ⟨w.heap.size, 0, none⟩) ob (headF false true m) _ HY.out.pipe.drew HY.out.own.drew hH.drew (by omega) (by have := HY.out.bsz; simp; omega)).mono ?_
         rintro e w2 ⟨rfl, OA', oc', v, hov, hg, hoa, rfl⟩
         have HZ := Lib.hid (HY.out.write HA.out hov hg hoa)
         have d2 := HZ.out.conn.rw_))
  rename_i aK _
  refine aK _ _ ?_
  clear hH c2 na ma hov hg hoa HY
  have c2 := HZ.out.conn.rw_
  have c3 := HZ.out.conn.sec
  have hpb2 := HZ.out.bsz
  clear d2
  generalize v.setCell ⟨p, 1, none⟩ (.slice OA' (on + 2) oc') = W2 at HZ c2 c3 hpb2 ⊢
  go_wp2_with fail
  go_region_held3 (fun V => V.cell? ⟨cn, 2, none⟩ = some (.iface 34 (.pointer (some ⟨p, 0, none⟩))) ∧ V.cell? ⟨cn, 3, none⟩ = some (.iface 107 (.agg #[]))) ((first | exact ⟨c2, c3⟩ | exact ⟨by assumption, by assumption⟩))
    (first
      | (go_at_call 143
         refine (Encrypt_any p base (on + 2) oc' m c w.heap.size iv OA' A _ l _ HZ.out.pipe.drew HZ.out.own.drew HZ.out.body.drew (by have := HZ.out.old; simp; omega) (by omega) (by simp; omega)).mono ?_
         rintro e w3 ⟨rfl, OA2, oc2, u, v2, hov2, hbl2, hg2, rfl⟩
         have HV := Lib.hid (HZ.out.fin EL.out hov2 (by simpa using hbl2) hg2)
         have d2 := HV.out.1
         have d3 := HV.out.2.1))
  rename_i aK _
  refine aK _ _ ?_
  have hF := HV.out.2.2 _ rfl
  clear HV HZ hov2 hbl2 hg2 d2 d3 c2 c3
  generalize v2.setCell ⟨p, 1, none⟩ (.slice OA2 (on + 2 + m) oc2) = W3 at hF ⊢
  go_wp2_with fail
  go_ret
  exact hF

set_option maxRecDepth 100000 in
set_option maxHeartbeats 8000000 in
theorem send_s10 (cn p base on oc m c : Nat) (iv : Value) (OA A : Option Addr) (ob l : List UInt8) (w : World) (hp : Blk w p 36 #[iv, .slice OA on oc]) (ho : OB w base OA on oc ob) (hr : RB w w.heap.size A m l) (hm : m ≤ 255) (hsz : on ≤ 1099511627776) (hcn : IsConn w cn p) (hpb : p < cn) (hcb : cn < base) (hb : base ≤ w.heap.size)
    (hA : ∀ ad, A = some ad → ad.block ≠ p ∧ some ad.block ≠ OA.map (·.block)) :
    Calls Tryz.prog 52 #[.pointer (some ⟨cn, 0, none⟩), .bool true, .slice A m c, .int .u8 0] w (Sent w base p on iv OA ob (headF true false m ++ l)) := by
  have na := nil_Write ⟨p, 0, none⟩
  have ma := method_Write ⟨p, 0, none⟩
  have ne := nil_Encrypt
  have me := method_Encrypt
  have hx : bits .xor .u8 0 4 = 4 := by kernel_rfl
  have hd : decide ((255 : Int) < (m : Int)) = false := by rw [decide_eq_false_iff_not]; omega
  have HX := Lib.hid (⟨hp, ho, hr, hcn, hA⟩ : _ ∧ _ ∧ _ ∧ _ ∧ _)
  clear hp ho hr hcn hA
  go_enter Tryz.func52, Tryz.ntmps52
  go_wp2_with fail
  have hB : BB (w.alloc (.cells #[.int .u8 4, .int .u8 (m : Int), .int .u8 0, .int .u8 0, .int .u8 0, .int .u8 0, .int .u8 0, .int .u8 0, .int .u8 0] 154)) w.heap.size 154 (flagU true false :: UInt8.ofNat m :: [0, 0, 0, 0, 0, 0, 0]) := by
    have h := BB.mk w 154 (flagU true false :: UInt8.ofNat m :: [0, 0, 0, 0, 0, 0, 0])
    have e : ((UInt8.ofNat m).toNat : Int) = (m : Int) := by
      have : (UInt8.ofNat m).toNat = m := by simp; omega
      rw [this]
    simp only [bv, List.map_cons, e] at h
    exact h
  have hWB : Below w.heap.size w (w.alloc (.cells #[.int .u8 4, .int .u8 (m : Int), .int .u8 0, .int .u8 0, .int .u8 0, .int .u8 0, .int .u8 0, .int .u8 0, .int .u8 0] 154)) := (Below.refl _ w).alloc (Nat.le_refl _) _
  generalize (w.alloc (.cells #[.int .u8 4, .int .u8 (m : Int), .int .u8 0, .int .u8 0, .int .u8 0, .int .u8 0, .int .u8 0, .int .u8 0, .int .u8 0] 154)) = W at hB hWB ⊢
  have hH := hB.rb (o := 0) (n := 2) (by simp)
  have eH : ((flagU true false :: UInt8.ofNat m :: [0, 0, 0, 0, 0, 0, 0]).drop 0).take 2 = headF true false m := by rw [headF_small hm]; rfl
  rw [eH] at hH
  have eL : (headF true false m).length = 2 := by rw [headF_small hm]; rfl
  have EL := Lib.hid eL
  clear eL eH hB hd
  have hsW := hWB.size
  have HY := Lib.hid (SendSt.start HX.out.1 HX.out.2.1 HX.out.2.2.1 HX.out.2.2.2.1 hWB hcb hpb hb)
  have c2 := HY.out.conn.rw_
  have HA := Lib.hid HX.out.2.2.2.2
  clear HX
  go_region_held3 (fun V => V.cell? ⟨cn, 2, none⟩ = some (.iface 34 (.pointer (some ⟨p, 0, none⟩)))) ((first | exact c2 | assumption))
    (first
      | (go_at_call 125
         refine (Write_any p base on oc 2 9 W.heap.size iv OA (some ⟨w.heap.size, 0, none⟩) ob (headF true false m) _ HY.out.pipe.drew HY.out.own.drew hH.drew (by omega) (by have := HY.out.bsz; simp; omega)).mono ?_
         rintro e w2 ⟨rfl, OA', oc', v, hov, hg, hoa, rfl⟩
         have HZ := Lib.hid (HY.out.write HA.out hov hg hoa)
         have d2 := HZ.out.conn.rw_))
  rename_i aK _
  refine aK _ _ ?_
  clear hH c2 na ma hov hg hoa HY
  have c2 := HZ.out.conn.rw_
  have c3 := HZ.out.conn.sec
  have hpb2 := HZ.out.bsz
  clear d2
  generalize v.setCell ⟨p, 1, none⟩ (.slice OA' (on + 2) oc') = W2 at HZ c2 c3 hpb2 ⊢
  go_wp2_with fail
  go_region_held3 (fun V => V.cell? ⟨cn, 2, none⟩ = some (.iface 34 (.pointer (some ⟨p, 0, none⟩))) ∧ V.cell? ⟨cn, 3, none⟩ = some (.iface 107 (.agg #[]))) ((first | exact ⟨c2, c3⟩ | exact ⟨by assumption, by assumption⟩))
    (first
      | (go_at_call 143
         refine (Encrypt_any p base (on + 2) oc' m c w.heap.size iv OA' A _ l _ HZ.out.pipe.drew HZ.out.own.drew HZ.out.body.drew (by have := HZ.out.old; simp; omega) (by omega) (by simp; omega)).mono ?_
         rintro e w3 ⟨rfl, OA2, oc2, u, v2, hov2, hbl2, hg2, rfl⟩
         have HV := Lib.hid (HZ.out.fin EL.out hov2 (by simpa using hbl2) hg2)
         have d2 := HV.out.1
         have d3 := HV.out.2.1))
  rename_i aK _
  refine aK _ _ ?_
  have hF := HV.out.2.2 _ rfl
  clear HV HZ hov2 hbl2 hg2 d2 d3 c2 c3
  generalize v2.setCell ⟨p, 1, none⟩ (.slice OA2 (on + 2 + m) oc2) = W3 at hF ⊢
  go_wp2_with fail
  go_ret
  exact hF

set_option maxRecDepth 100000 in
set_option maxHeartbeats 8000000 in
theorem send_s11 (cn p base on oc m c : Nat) (iv : Value) (OA A : Option Addr) (ob l : List UInt8) (w : World) (hp : Blk w p 36 #[iv, .slice OA on oc]) (ho : OB w base OA on oc ob) (hr : RB w w.heap.size A m l) (hm : m ≤ 255) (hsz : on ≤ 1099511627776) (hcn : IsConn w cn p) (hpb : p < cn) (hcb : cn < base) (hb : base ≤ w.heap.size)
    (hA : ∀ ad, A = some ad → ad.block ≠ p ∧ some ad.block ≠ OA.map (·.block)) :
    Calls Tryz.prog 52 #[.pointer (some ⟨cn, 0, none⟩), .bool true, .slice A m c, .int .u8 1] w (Sent w base p on iv OA ob (headF true true m ++ l)) := by
  have na := nil_Write ⟨p, 0, none⟩
  have ma := method_Write ⟨p, 0, none⟩
  have ne := nil_Encrypt
  have me := method_Encrypt
  have hx : bits .xor .u8 1 4 = 5 := by kernel_rfl
  have hd : decide ((255 : Int) < (m : Int)) = false := by rw [decide_eq_false_iff_not]; omega
  have HX := Lib.hid (⟨hp, ho, hr, hcn, hA⟩ : _ ∧ _ ∧ _ ∧ _ ∧ _)
  clear hp ho hr hcn hA
  go_enter Tryz.func52, Tryz.ntmps52
  go_wp2_with fail
  have hB : BB (w.alloc (.cells #[.int .u8 5, .int .u8 (m : Int), .int .u8 0, .int .u8 0, .int .u8 0, .int .u8 0, .int .u8 0, .int .u8 0, .int .u8 0] 154)) w.heap.size 154 (flagU true true :: UInt8.ofNat m :: [0, 0, 0, 0, 0, 0, 0]) := by
    have h := BB.mk w 154 (flagU true true :: UInt8.ofNat m :: [0, 0, 0, 0, 0, 0, 0])
    have e : ((UInt8.ofNat m).toNat : Int) = (m : Int) := by
      have : (UInt8.ofNat m).toNat = m := by simp; omega
      rw [this]
    simp only [bv, List.map_cons, e] at h
    exact h
  have hWB : Below w.heap.size w (w.alloc (.cells #[.int .u8 5, .int .u8 (m : Int), .int .u8 0, .int .u8 0, .int .u8 0, .int .u8 0, .int .u8 0, .int .u8 0, .int .u8 0] 154)) := (Below.refl _ w).alloc (Nat.le_refl _) _
  generalize (w.alloc (.cells #[.int .u8 5, .int .u8 (m : Int), .int .u8 0, .int .u8 0, .int .u8 0, .int .u8 0, .int .u8 0, .int .u8 0, .int .u8 0] 154)) = W at hB hWB ⊢
  have hH := hB.rb (o := 0) (n := 2) (by simp)
  have eH : ((flagU true true :: UInt8.ofNat m :: [0, 0, 0, 0, 0, 0, 0]).drop 0).take 2 = headF true true m := by rw [headF_small hm]; rfl
  rw [eH] at hH
  have eL : (headF true true m).length = 2 := by rw [headF_small hm]; rfl
  have EL := Lib.hid eL
  clear eL eH hB hd
  have hsW := hWB.size
  have HY := Lib.hid (SendSt.start HX.out.1 HX.out.2.1 HX.out.2.2.1 HX.out.2.2.2.1 hWB hcb hpb hb)
  have c2 := HY.out.conn.rw_
  have HA := Lib.hid HX.out.2.2.2.2
  clear HX
  go_region_held3 (fun V => V.cell? ⟨cn, 2, none⟩ = some (.iface 34 (.pointer (some ⟨p, 0, none⟩)))) ((first | exact c2 | assumption))
    (first
      | (go_at_call 125
         refine (Write_any p base on oc 2 9 W.heap.size iv OA (some ⟨w.heap.size, 0, none⟩) ob (headF true true m) _ HY.out.pipe.drew HY.out.own.drew hH.drew (by omega) (by have := HY.out.bsz; simp; omega)).mono ?_
         rintro e w2 ⟨rfl, OA', oc', v, hov, hg, hoa, rfl⟩
         have HZ := Lib.hid (HY.out.write HA.out hov hg hoa)
         have d2 := HZ.out.conn.rw_))
  rename_i aK _
  refine aK _ _ ?_
  clear hH c2 na ma hov hg hoa HY
  have c2 := HZ.out.conn.rw_
  have c3 := HZ.out.conn.sec
  have hpb2 := HZ.out.bsz
  clear d2
  generalize v.setCell ⟨p, 1, none⟩ (.slice OA' (on + 2) oc') = W2 at HZ c2 c3 hpb2 ⊢
  go_wp2_with fail
  go_region_held3 (fun V => V.cell? ⟨cn, 2, none⟩ = some (.iface 34 (.pointer (some ⟨p, 0, none⟩))) ∧ V.cell? ⟨cn, 3, none⟩ = some (.iface 107 (.agg #[]))) ((first | exact ⟨c2, c3⟩ | exact ⟨by assumption, by assumption⟩))
    (first
      | (go_at_call 143
         refine (Encrypt_any p base (on + 2) oc' m c w.heap.size iv OA' A _ l _ HZ.out.pipe.drew HZ.out.own.drew HZ.out.body.drew (by have := HZ.out.old; simp; omega) (by omega) (by simp; omega)).mono ?_
         rintro e w3 ⟨rfl, OA2, oc2, u, v2, hov2, hbl2, hg2, rfl⟩
         have HV := Lib.hid (HZ.out.fin EL.out hov2 (by simpa using hbl2) hg2)
         have d2 := HV.out.1
         have d3 := HV.out.2.1))
  rename_i aK _
  refine aK _ _ ?_
  have hF := HV.out.2.2 _ rfl
  clear HV HZ hov2 hbl2 hg2 d2 d3 c2 c3
  generalize v2.setCell ⟨p, 1, none⟩ (.slice OA2 (on + 2 + m) oc2) = W3 at hF ⊢
  go_wp2_with fail
  go_ret
  exact hF

set_option maxRecDepth 100000 in
set_option maxHeartbeats 8000000 in
theorem send_l00 (cn p base on oc m c : Nat) (iv : Value) (OA A : Option Addr) (ob l : List UInt8) (w : World) (hp : Blk w p 36 #[iv, .slice OA on oc]) (ho : OB w base OA on oc ob) (hr : RB w w.heap.size A m l) (hm : ¬ m ≤ 255 ∧ m ≤ 1000) (hsz : on ≤ 1099511627776) (hcn : IsConn w cn p) (hpb : p < cn) (hcb : cn < base) (hb : base ≤ w.heap.size)
    (hA : ∀ ad, A = some ad → ad.block ≠ p ∧ some ad.block ≠ OA.map (·.block)) :
    Calls Tryz.prog 52 #[.pointer (some ⟨cn, 0, none⟩), .bool false, .slice A m c, .int .u8 0] w (Sent w base p on iv OA ob (headF false false m ++ l)) := by
  have na := nil_Write ⟨p, 0, none⟩
  have ma := method_Write ⟨p, 0, none⟩
  have ne := nil_Encrypt
  have me := method_Encrypt
  obtain ⟨hm, hm2⟩ := hm
  have hd : decide ((255 : Int) < (m : Int)) = true := by rw [decide_eq_true_eq]; omega
  have HX := Lib.hid (⟨hp, ho, hr, hcn, hA⟩ : _ ∧ _ ∧ _ ∧ _ ∧ _)
  clear hp ho hr hcn hA
  go_enter Tryz.func52, Tryz.ntmps52
  go_wp2_with fail
  refine (bePutUint64 w.heap.size m 154 (longU false false) _ (BB.mk w 154 (longU false false :: noughts8)) hm2).mono ?_
  rintro e W ⟨rfl, hB, haB, hsB⟩
  have hWB : Below w.heap.size w W := ((Below.refl _ w).alloc (Nat.le_refl _) _).trans (haB.below (by simp) (by simp))
  clear haB hsB
  have hH := hB.rb (o := 0) (n := 9) (by simp [be8])
  have eH : ((longU false false :: be8 m).drop 0).take 9 = headF false false m := by rw [headF_long hm]; rfl
  rw [eH] at hH
  have eL : (headF false false m).length = 9 := by rw [headF_long hm]; rfl
  go_wp2_with fail
  have EL := Lib.hid eL
  clear eL eH hB hd
  have hsW := hWB.size
  have HY := Lib.hid (SendSt.start HX.out.1 HX.out.2.1 HX.out.2.2.1 HX.out.2.2.2.1 hWB hcb hpb hb)
  have c2 := HY.out.conn.rw_
  have HA := Lib.hid HX.out.2.2.2.2
  clear HX
  go_region_held3 (fun V => V.cell? ⟨cn, 2, none⟩ = some (.iface 34 (.pointer (some ⟨p, 0, none⟩)))) ((first | exact c2 | assumption))
    (first
      | (go_at_call 125
         refine (Write_any p base on oc 9 9 W.heap.size iv OA (some ⟨w.heap.size, 0, none⟩) ob (headF false false m) _ HY.out.pipe.drew HY.out.own.drew hH.drew (by omega) (by have := HY.out.bsz; simp; omega)).mono ?_
         rintro e w2 ⟨rfl, OA', oc', v, hov, hg, hoa, rfl⟩
         have HZ := Lib.hid (HY.out.write HA.out hov hg hoa)
         have d2 := HZ.out.conn.rw_))
  rename_i aK _
  refine aK _ _ ?_
  clear hH c2 na ma hov hg hoa HY
  have c2 := HZ.out.conn.rw_
  have c3 := HZ.out.conn.sec
  have hpb2 := HZ.out.bsz
  clear d2
  generalize v.setCell ⟨p, 1, none⟩ (.slice OA' (on + 9) oc') = W2 at HZ c2 c3 hpb2 ⊢
  go_wp2_with fail
  go_region_held3 (fun V => V.cell? ⟨cn, 2, none⟩ = some (.iface 34 (.pointer (some ⟨p, 0, none⟩))) ∧ V.cell? ⟨cn, 3, none⟩ = some (.iface 107 (.agg #[]))) ((first | exact ⟨c2, c3⟩ | exact ⟨by assumption, by assumption⟩))
    (first
      | (go_at_call 143
         refine (Encrypt_any p base (on + 9) oc' m c w.heap.size iv OA' A _ l _ HZ.out.pipe.drew HZ.out.own.drew HZ.out.body.drew (by have := HZ.out.old; simp; omega) (by omega) (by simp; omega)).mono ?_
         rintro e w3 ⟨rfl, OA2, oc2, u, v2, hov2, hbl2, hg2, rfl⟩
         have HV := Lib.hid (HZ.out.fin EL.out hov2 (by simpa using hbl2) hg2)
         have d2 := HV.out.1
         have d3 := HV.out.2.1))
  rename_i aK _
  refine aK _ _ ?_
  have hF := HV.out.2.2 _ rfl
  clear HV HZ hov2 hbl2 hg2 d2 d3 c2 c3
  generalize v2.setCell ⟨p, 1, none⟩ (.slice OA2 (on + 9 + m) oc2) = W3 at hF ⊢
  go_wp2_with fail
  go_ret
  exact hF

set_option maxRecDepth 100000 in
set_option maxHeartbeats 8000000 in
theorem send_l01 (cn p base on oc m c : Nat) (iv : Value) (OA A : Option Addr) (ob l : List UInt8) (w : World) (hp : Blk w p 36 #[iv, .slice OA on oc]) (ho : OB w base OA on oc ob) (hr : RB w w.heap.size A m l) (hm : ¬ m ≤ 255 ∧ m ≤ 1000) (hsz : on ≤ 1099511627776) (hcn : IsConn w cn p) (hpb : p < cn) (hcb : cn < base) (hb : base ≤ w.heap.size)
    (hA : ∀ ad, A = some ad → ad.block ≠ p ∧ some ad.block ≠ OA.map (·.block)) :
    Calls Tryz.prog 52 #[.pointer (some ⟨cn, 0, none⟩), .bool false, .slice A m c, .int .u8 1] w (Sent w base p on iv OA ob (headF false true m ++ l)) := by
  have na := nil_Write ⟨p, 0, none⟩
  have ma := method_Write ⟨p, 0, none⟩
  have ne := nil_Encrypt
  have me := method_Encrypt
  obtain ⟨hm, hm2⟩ := hm
  have hd : decide ((255 : Int) < (m : Int)) = true := by rw [decide_eq_true_eq]; omega
  have HX := Lib.hid (⟨hp, ho, hr, hcn, hA⟩ : _ ∧ _ ∧ _ ∧ _ ∧ _)
  clear hp ho hr hcn hA
  go_enter Tryz.func52, Tryz.ntmps52
  go_wp2_with fail
  refine (bePutUint64 w.heap.size m 154 (longU false true) _ (BB.mk w 154 (longU false true :: noughts8)) hm2).mono ?_
  rintro e W ⟨rfl, hB, haB, hsB⟩
  have hWB : Below w.heap.size w W := ((Below.refl _ w).alloc (Nat.le_refl _) _).trans (haB.below (by simp) (by simp))
  clear haB hsB
  have hH := hB.rb (o := 0) (n := 9) (by simp [be8])
  have eH : ((longU false true :: be8 m).drop 0).take 9 = headF false true m := by rw [headF_long hm]; rfl
  rw [eH] at hH
  have eL : (headF false true m).length = 9 := by rw [headF_long hm]; rfl
  go_wp2_with fail
  have EL := Lib.hid eL
  clear eL eH hB hd
  have hsW := hWB.size
  have HY := Lib.hid (SendSt.start HX.out.1 HX.out.2.1 HX.out.2.2.1 HX.out.2.2.2.1 hWB hcb hpb hb)
  have c2 := HY.out.conn.rw_
  have HA := Lib.hid HX.out.2.2.2.2
  clear HX
  go_region_held3 (fun V => V.cell? ⟨cn, 2, none⟩ = some (.iface 34 (.pointer (some ⟨p, 0, none⟩)))) ((first | exact c2 | assumption))
    (first
      | (go_at_call 125
         refine (Write_any p base on oc 9 9 W.heap.size iv OA (some ⟨w.heap.size, 0, none⟩) ob (headF false true m) _ HY.out.pipe.drew HY.out.own.drew hH.drew (by omega) (by have := HY.out.bsz; simp; omega)).mono ?_
         rintro e w2 ⟨rfl, OA', oc', v, hov, hg, hoa, rfl⟩
         have HZ := Lib.hid (HY.out.write HA.out hov hg hoa)
         have d2 := HZ.out.conn.rw_))
  rename_i aK _
  refine aK _ _ ?_
  clear hH c2 na ma hov hg hoa HY
  have c2 := HZ.out.conn.rw_
  have c3 := HZ.out.conn.sec
  have hpb2 := HZ.out.bsz
  clear d2
  generalize v.setCell ⟨p, 1, none⟩ (.slice OA' (on + 9) oc') = W2 at HZ c2 c3 hpb2 ⊢
  go_wp2_with fail
  go_region_held3 (fun V => V.cell? ⟨cn, 2, none⟩ = some (.iface 34 (.pointer (some ⟨p, 0, none⟩))) ∧ V.cell? ⟨cn, 3, none⟩ = some (.iface 107 (.agg #[]))) ((first | exact ⟨c2, c3⟩ | exact ⟨by assumption, by assumption⟩))
    (first
      | (go_at_call 143
         refine (Encrypt_any p base (on + 9) oc' m c w.heap.size iv OA' A _ l _ HZ.out.pipe.drew HZ.out.own.drew HZ.out.body.drew (by have := HZ.out.old; simp; omega) (by omega) (by simp; omega)).mono ?_
         rintro e w3 ⟨rfl, OA2, oc2, u, v2, hov2, hbl2, hg2, rfl⟩
         have HV := Lib.hid (HZ.out.fin EL.out hov2 (by simpa using hbl2) hg2)
         have d2 := HV.out.1
         have d3 := HV.out.2.1))
  rename_i aK _
  refine aK _ _ ?_
  have hF := HV.out.2.2 _ rfl
  clear HV HZ hov2 hbl2 hg2 d2 d3 c2 c3
  generalize v2.setCell ⟨p, 1, none⟩ (.slice OA2 (on + 9 + m) oc2) = W3 at hF ⊢
  go_wp2_with fail
  go_ret
  exact hF

set_option maxRecDepth 100000 in
set_option maxHeartbeats 8000000 in
theorem send_l10 (cn p base on oc m c : Nat) (iv : Value) (OA A : Option Addr) (ob l : List UInt8) (w : World) (hp : Blk w p 36 #[iv, .slice OA on oc]) (ho : OB w base OA on oc ob) (hr : RB w w.heap.size A m l) (hm : ¬ m ≤ 255 ∧ m ≤ 1000) (hsz : on ≤ 1099511627776) (hcn : IsConn w cn p) (hpb : p < cn) (hcb : cn < base) (hb : base ≤ w.heap.size)
    (hA : ∀ ad, A = some ad → ad.block ≠ p ∧ some ad.block ≠ OA.map (·.block)) :
    Calls Tryz.prog 52 #[.pointer (some ⟨cn, 0, none⟩), .bool true, .slice A m c, .int .u8 0] w (Sent w base p on iv OA ob (headF true false m ++ l)) := by
  have na := nil_Write ⟨p, 0, none⟩
  have ma := method_Write ⟨p, 0, none⟩
  have ne := nil_Encrypt
  have me := method_Encrypt
  obtain ⟨hm, hm2⟩ := hm
  have hd : decide ((255 : Int) < (m : Int)) = true := by rw [decide_eq_true_eq]; omega
  have HX := Lib.hid (⟨hp, ho, hr, hcn, hA⟩ : _ ∧ _ ∧ _ ∧ _ ∧ _)
  clear hp ho hr hcn hA
  go_enter Tryz.func52, Tryz.ntmps52
  go_wp2_with fail
  refine (bePutUint64 w.heap.size m 154 (longU true false) _ (BB.mk w 154 (longU true false :: noughts8)) hm2).mono ?_
  rintro e W ⟨rfl, hB, haB, hsB⟩
  have hWB : Below w.heap.size w W := ((Below.refl _ w).alloc (Nat.le_refl _) _).trans (haB.below (by simp) (by simp))
  clear haB hsB
  have hH := hB.rb (o := 0) (n := 9) (by simp [be8])
  have eH : ((longU true false :: be8 m).drop 0).take 9 = headF true false m := by rw [headF_long hm]; rfl
  rw [eH] at hH
  have eL : (headF true false m).length = 9 := by rw [headF_long hm]; rfl
  go_wp2_with fail
  have EL := Lib.hid eL
  clear eL eH hB hd
  have hsW := hWB.size
  have HY := Lib.hid (SendSt.start HX.out.1 HX.out.2.1 HX.out.2.2.1 HX.out.2.2.2.1 hWB hcb hpb hb)
  have c2 := HY.out.conn.rw_
  have HA := Lib.hid HX.out.2.2.2.2
  clear HX
  go_region_held3 (fun V => V.cell? ⟨cn, 2, none⟩ = some (.iface 34 (.pointer (some ⟨p, 0, none⟩)))) ((first | exact c2 | assumption))
    (first
      | (go_at_call 125
         refine (Write_any p base on oc 9 9 W.heap.size iv OA (some ⟨w.heap.size, 0, none⟩) ob (headF true false m) _ HY.out.pipe.drew HY.out.own.drew hH.drew (by omega) (by have := HY.out.bsz; simp; omega)).mono ?_
         rintro e w2 ⟨rfl, OA', oc', v, hov, hg, hoa, rfl⟩
         have HZ := Lib.hid (HY.out.write HA.out hov hg hoa)
         have d2 := HZ.out.conn.rw_))
  rename_i aK _
  refine aK _ _ ?_
  clear hH c2 na ma hov hg hoa HY
  have c2 := HZ.out.conn.rw_
  have c3 := HZ.out.conn.sec
  have hpb2 := HZ.out.bsz
  clear d2
  generalize v.setCell ⟨p, 1, none⟩ (.slice OA' (on + 9) oc') = W2 at HZ c2 c3 hpb2 ⊢
  go_wp2_with fail
  go_region_held3 (fun V => V.cell? ⟨cn, 2, none⟩ = some (.iface 34 (.pointer (some ⟨p, 0, none⟩))) ∧ V.cell? ⟨cn, 3, none⟩ = some (.iface 107 (.agg #[]))) ((first | exact ⟨c2, c3⟩ | exact ⟨by assumption, by assumption⟩))
    (first
      | (go_at_call 143
         refine (Encrypt_any p base (on + 9) oc' m c w.heap.size iv OA' A _ l _ HZ.out.pipe.drew HZ.out.own.drew HZ.out.body.drew (by have := HZ.out.old; simp; omega) (by omega) (by simp; omega)).mono ?_
         rintro e w3 ⟨rfl, OA2, oc2, u, v2, hov2, hbl2, hg2, rfl⟩
         have HV := Lib.hid (HZ.out.fin EL.out hov2 (by simpa using hbl2) hg2)
         have d2 := HV.out.1
         have d3 := HV.out.2.1))
  rename_i aK _
  refine aK _ _ ?_
  have hF := HV.out.2.2 _ rfl
  clear HV HZ hov2 hbl2 hg2 d2 d3 c2 c3
  generalize v2.setCell ⟨p, 1, none⟩ (.slice OA2 (on + 9 + m) oc2) = W3 at hF ⊢
  go_wp2_with fail
  go_ret
  exact hF

set_option maxRecDepth 100000 in
set_option maxHeartbeats 8000000 in
theorem send_l11 (cn p base on oc m c : Nat) (iv : Value) (OA A : Option Addr) (ob l : List UInt8) (w : World) (hp : Blk w p 36 #[iv, .slice OA on oc]) (ho : OB w base OA on oc ob) (hr : RB w w.heap.size A m l) (hm : ¬ m ≤ 255 ∧ m ≤ 1000) (hsz : on ≤ 1099511627776) (hcn : IsConn w cn p) (hpb : p < cn) (hcb : cn < base) (hb : base ≤ w.heap.size)
    (hA : ∀ ad, A = some ad → ad.block ≠ p ∧ some ad.block ≠ OA.map (·.block)) :
    Calls Tryz.prog 52 #[.pointer (some ⟨cn, 0, none⟩), .bool true, .slice A m c, .int .u8 1] w (Sent w base p on iv OA ob (headF true true m ++ l)) := by
  have na := nil_Write ⟨p, 0, none⟩
  have ma := method_Write ⟨p, 0, none⟩
  have ne := nil_Encrypt
  have me := method_Encrypt
  obtain ⟨hm, hm2⟩ := hm
  have hd : decide ((255 : Int) < (m : Int)) = true := by rw [decide_eq_true_eq]; omega
  have HX := Lib.hid (⟨hp, ho, hr, hcn, hA⟩ : _ ∧ _ ∧ _ ∧ _ ∧ _)
  clear hp ho hr hcn hA
  go_enter Tryz.func52, Tryz.ntmps52
  go_wp2_with fail
  refine (bePutUint64 w.heap.size m 154 (longU true true) _ (BB.mk w 154 (longU true true :: noughts8)) hm2).mono ?_
  rintro e W ⟨rfl, hB, haB, hsB⟩
  have hWB : Below w.heap.size w W := ((Below.refl _ w).alloc (Nat.le_refl _) _).trans (haB.below (by simp) (by simp))
  clear haB hsB
  have hH := hB.rb (o := 0) (n := 9) (by simp [be8])
  have eH : ((longU true true :: be8 m).drop 0).take 9 = headF true true m := by rw [headF_long hm]; rfl
  rw [eH] at hH
  have eL : (headF true true m).length = 9 := by rw [headF_long hm]; rfl
  go_wp2_with fail
  have EL := Lib.hid eL
  clear eL eH hB hd
  have hsW := hWB.size
  have HY := Lib.hid (SendSt.start HX.out.1 HX.out.2.1 HX.out.2.2.1 HX.out.2.2.2.1 hWB hcb hpb hb)
  have c2 := HY.out.conn.rw_
  have HA := Lib.hid HX.out.2.2.2.2
  clear HX
  go_region_held3 (fun V => V.cell? ⟨cn, 2, none⟩ = some (.iface 34 (.pointer (some ⟨p, 0, none⟩)))) ((first | exact c2 | assumption))
    (first
      | (go_at_call 125
         refine (Write_any p base on oc 9 9 W.heap.size iv OA (some ⟨w.heap.size, 0, none⟩) ob (headF true true m) _ HY.out.pipe.drew HY.out.own.drew hH.drew (by omega) (by have := HY.out.bsz; simp; omega)).mono ?_
         rintro e w2 ⟨rfl, OA', oc', v, hov, hg, hoa, rfl⟩
         have HZ := Lib.hid (HY.out.write HA.out hov hg hoa)
         have d2 := HZ.out.conn.rw_))
  rename_i aK _
  refine aK _ _ ?_
  clear hH c2 na ma hov hg hoa HY
  have c2 := HZ.out.conn.rw_
  have c3 := HZ.out.conn.sec
  have hpb2 := HZ.out.bsz
  clear d2
  generalize v.setCell ⟨p, 1, none⟩ (.slice OA' (on + 9) oc') = W2 at HZ c2 c3 hpb2 ⊢
  go_wp2_with fail
  go_region_held3 (fun V => V.cell? ⟨cn, 2, none⟩ = some (.iface 34 (.pointer (some ⟨p, 0, none⟩))) ∧ V.cell? ⟨cn, 3, none⟩ = some (.iface 107 (.agg #[]))) ((first | exact ⟨c2, c3⟩ | exact ⟨by assumption, by assumption⟩))
    (first
      | (go_at_call 143
         refine (Encrypt_any p base (on + 9) oc' m c w.heap.size iv OA' A _ l _ HZ.out.pipe.drew HZ.out.own.drew HZ.out.body.drew (by have := HZ.out.old; simp; omega) (by omega) (by simp; omega)).mono ?_
         rintro e w3 ⟨rfl, OA2, oc2, u, v2, hov2, hbl2, hg2, rfl⟩
         have HV := Lib.hid (HZ.out.fin EL.out hov2 (by simpa using hbl2) hg2)
         have d2 := HV.out.1
         have d3 := HV.out.2.1))
  rename_i aK _
  refine aK _ _ ?_
  have hF := HV.out.2.2 _ rfl
  clear HV HZ hov2 hbl2 hg2 d2 d3 c2 c3
  generalize v2.setCell ⟨p, 1, none⟩ (.slice OA2 (on + 9 + m) oc2) = W3 at hF ⊢
  go_wp2_with fail
  go_ret
  exact hF

end Go.Proofs.YtkpcepdalegmmaaGreatDoor
