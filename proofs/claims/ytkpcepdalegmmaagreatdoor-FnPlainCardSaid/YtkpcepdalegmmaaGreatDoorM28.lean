/- Parts of a proof, laid behind one another: PLAIN: a client's handshake. PLAIN: a client's init. -/
import Derived.Test.YtkpcepdalegmmaaGreatDoorM27
/-! PLAIN: a client's handshake. -/
namespace Go.Proofs.YtkpcepdalegmmaaGreatDoor
open Go.RowKit

theorem wrap2 {a b : Nat} (ha : a ≤ 255) (hb : b ≤ 255) : ((a + b + 2 : Nat) : Int) = IntKind.i64.wrap (IntKind.i64.wrap ((a : Int) + (b : Int)) + 2) := by
  have h1 : IntKind.i64.wrap ((a : Int) + (b : Int)) = (a : Int) + (b : Int) := by rw [IntKind.wrap_i64]; omega
  rw [h1]
  have h2 : IntKind.i64.wrap ((a : Int) + (b : Int) + 2) = (a : Int) + (b : Int) + 2 := by rw [IntKind.wrap_i64]; omega
  rw [h2]
  omega
theorem headF_le (a b : Bool) (m : Nat) : (headF a b m).length ≤ 9 := by
  unfold headF
  split
  · simp
  · simp [be8]
theorem cmdB_len (name : ByteArray) (body : List UInt8) : (cmdBytes name body).length = 1 + name.size + body.length := by
  have : name.data.size = name.size := rfl
  simp [cmdBytes]
  omega
theorem hsLen {nu np on : Nat} {l : List UInt8} (hu : nu ≤ 255) (hp : np ≤ 255) (ho : on ≤ 1000) (hl : l.length = 1 + nu + 1 + np) : on + (headF true false (1 + helloS.size + (1 + nu + 1 + np)) ++ cmdBytes helloS l).length ≤ 1000000 := by
  have h1 := headF_le true false (1 + helloS.size + (1 + nu + 1 + np))
  have h2 := cmdB_len helloS l
  have h3 := helloS_size
  rw [List.length_append]
  omega
theorem repFit : ∀ kv ∈ repK, kvFit kv := by
  intro f hf
  simp only [repK, List.mem_cons, List.not_mem_nil, or_false] at hf
  subst hf
  exact ⟨by decide +kernel, by decide +kernel, by decide +kernel⟩
theorem Blk.off {w : World} {g k : Nat} {t t' : TypeId} {cs cs' : Array Value} (h : Blk w g t cs) (h' : Blk w k t' cs') (ht : t ≠ t') (e : g = k) : False := by
  subst e
  unfold Blk at h h'
  rw [h] at h'
  injection h' with h'
  injection h' with _ h2
  exact ht h2
theorem OB.off {w : World} {base n c k : Nat} {A : Option Addr} {l : List UInt8} (h : OB w base A n c l) {ad : Addr} (hA : A = some ad) {t' : TypeId} {cs' : Array Value} (h' : Blk w k t' cs') (ht : 5 ≠ t') (e : ad.block = k) : False := by
  rcases h.2 with ⟨h0, _⟩ | ⟨g, cap, cur, hv, _, hbk, _⟩
  · subst hA
    cases h0
  · injection hv with h1 _ _
    rw [hA] at h1
    injection h1 with h1
    rw [h1] at e
    exact Blk.off (t := 5) hbk h' ht e
/-- What the handshake leaves. -/
def HsOk (p sc cn m1 m3 B K : Nat) (m2 : Value) (u q outb : List UInt8) (w : World) (e : Ending) (w' : World) : Prop :=
  e = .returned .nilIface ∧ ∃ IA' n' c' OA' on' oc', Cli p sc cn m1 B K (.map (some m3)) m2 true (.slice none 0 0) (.slice none 0 0) IA' n' c' [] OA' on' oc' (outb ++ cmdF helloS (helloL u q) ++ cmdF initS (encKVs reqK)) w' ∧ MapIs w' m3 1 (mdOf repK) ∧ Keep B [p, m3, sc] w w'

set_option maxRecDepth 100000 in
set_option maxHeartbeats 8000000 in
theorem hsk (p sc cn m1 m3 B K : Nat) (m2 : Value) (UA PA : Option Addr) (nu cu np cp : Nat) (u q : List UInt8) (IA : Option Addr) (n c : Nat) (OA : Option Addr) (on oc : Nat) (outb : List UInt8) (w : World)
    (hC : Cli p sc cn m1 B K (.map (some m3)) m2 true (.slice UA nu cu) (.slice PA np cp) IA n c serverIn OA on oc outb w) (hm1 : MapIs w m1 2 (mdX reqK)) (hm3 : MapIs w m3 0 (.map [])) (hor : sc < m1 ∧ m1 < cn ∧ cn < m3 ∧ m3 < B) (hon : on ≤ 1000) (hu : RB w w.heap.size UA nu u) (hq : RB w w.heap.size PA np q) (hnu : nu ≤ 255) (hnp : np ≤ 255) :
    Calls Tryz.prog 131 #[.pointer (some ⟨sc, 0, none⟩), .pointer (some ⟨cn, 0, none⟩), .bool false] w (HsOk p sc cn m1 m3 B K m2 u q outb w) := by
  have s0 := hC.secb.cell 0
  have s1 := hC.secb.cell 1
  simp only [List.getElem?_toArray, List.getElem?_cons_zero, List.getElem?_cons_succ] at s0 s1
  have hord := hC.ord
  have S_of : ∀ V, Below w.heap.size w V → V.cell? ⟨sc, 0, none⟩ = some (.slice UA nu cu) ∧ V.cell? ⟨sc, 1, none⟩ = some (.slice PA np cp) := fun V hV =>
    ⟨((bcell hV).1 sc 0 hC.secb.lt).trans s0, ((bcell hV).1 sc 1 hC.secb.lt).trans s1⟩
  have mk := make0N (nu + np + 2) (by omega)
  have e2 := wrap2 hnu hnp
  rw [e2] at mk
  have HC := Lib.hid (⟨hC, hu, hq, hm1, hm3⟩ : _ ∧ _ ∧ _ ∧ _ ∧ _)
  have HS := Lib.hid S_of
  clear hC hu hq hm1 hm3 e2 S_of
  go_enter Tryz.func131, Tryz.ntmps131
  go_wp2_with fail
  go_region_held3 (fun V => V.cell? ⟨sc, 0, none⟩ = some (.slice UA nu cu) ∧ V.cell? ⟨sc, 1, none⟩ = some (.slice PA np cp))
    ((first | exact HS.out _ (Below.refl _ _).drew | exact HS.out _ ((Below.refl _ _).drew.alloc (Nat.le_refl _) _)))
    (fail)
  rename_i aK _
  refine aK _ _ ?_
  clear aK
  have ho0 : OB (w.alloc (.cells (bv (noughtsN (nu + np + 2))).toArray 5)).drew w.heap.size (some ⟨w.heap.size, 0, none⟩) 0 (nu + np + 2) [] := OB.room w.drew w.heap.size _ (Nat.le_refl _) (by omega)
  have hb0 : Below w.heap.size w (w.alloc (.cells (bv (noughtsN (nu + np + 2))).toArray 5)).drew := ((Below.refl _ _).alloc (Nat.le_refl _) _).drew
  generalize (w.alloc (.cells (bv (noughtsN (nu + np + 2))).toArray 5)).drew = W0 at ho0 hb0 ⊢
  have s00 := (HS.out _ hb0).1
  clear mk s0 s1
  go_wp2_with (first
    | (at_builtin
       refine wpl_appB rfl (.tmp 98) (.tmp 105) 23 rfl w.heap.size _ 0 _ [] rfl (ho0.alloc _) _ 1 [UInt8.ofNat nu] rfl ?s1 1 rfl (by omega) ?s2 ?_
       case s1 => exact srcB (OB.lit _ _ (Nat.le_refl _) _ _ (lit1' hnu) 1 rfl (by decide)).rb
       case s2 => have := hb0.size; simp; omega
       intro A1 c1 w1 ho1 hg1 ha1
       have hb1 : Below w.heap.size w w1 := (hb0.alloc hb0.size _).grown hg1 (by have := hb0.size; simp; omega) (fun k hk => ho0.base_le hk)
       have s10 := (HS.out _ hb1).1)
    | (at_builtin
       refine wpl_appB rfl (.tmp 107) (.tmp 111) 23 rfl w.heap.size _ 1 _ _ rfl ho1 _ nu u rfl (srcB (HC.out.2.1.below hb1)) (1 + nu) rfl (by omega) hb1.size ?_
       intro A2 c2 w2 ho2 hg2 ha2
       have hb2 : Below w.heap.size w w2 := hb1.grown hg2 hb1.size (fun k hk => ho1.base_le hk)
       have s21 := (HS.out _ hb2).2)
    | (at_builtin
       refine wpl_appB rfl (.tmp 113) (.tmp 120) 23 rfl w.heap.size _ (1 + nu) _ _ rfl (ho2.alloc _) _ 1 [UInt8.ofNat np] rfl ?s1 (1 + nu + 1) rfl (by omega) ?s2 ?_
       case s1 => exact srcB (OB.lit _ _ (Nat.le_refl _) _ _ (lit1' hnp) 1 rfl (by decide)).rb
       case s2 => have := hb2.size; simp; omega
       intro A3 c3 w3 ho3 hg3 ha3
       have hb3 : Below w.heap.size w w3 := (hb2.alloc hb2.size _).grown hg3 (by have := hb2.size; simp; omega) (fun k hk => ho2.base_le hk)
       have s31 := (HS.out _ hb3).2)
    | (at_builtin
       refine wpl_appB rfl (.tmp 122) (.tmp 126) 23 rfl w.heap.size _ (1 + nu + 1) _ _ rfl ho3 _ np q rfl (srcB (HC.out.2.2.1.below hb3)) (1 + nu + 1 + np) rfl (by omega) hb3.size ?_
       intro A4 c4 w4 ho4 hg4 ha4
       have hb4 : Below w.heap.size w w4 := hb3.grown hg4 hb3.size (fun k hk => ho3.base_le hk)))
  have hhl : ([] ++ [UInt8.ofNat nu] ++ u ++ [UInt8.ofNat np] ++ q : List UInt8) = helloL u q := by
    have h1 := HC.out.2.1.len
    have h2 := HC.out.2.2.1.len
    simp [helloL, h1, h2]
  rw [hhl] at ho4
  have hhn : (helloL u q).length = 1 + nu + 1 + np := ho4.len
  have hC4 := HC.out.1.below_ hb4
  have HK := Lib.hid (⟨hhn, hb4⟩ : _ ∧ _)
  refine (SendCmd helloS A4 (1 + nu + 1 + np) c4 (helloL u q) w4 hC4 ho4.rb (by rw [helloS_size]; decide) (by omega) (by omega)).mono ?_
  clear ho0 hb0 s00 ho1 hg1 ha1 hb1 s10 ho2 hg2 ha2 hb2 s21 ho3 hg3 ha3 hb3 s31 ho4 hg4 ha4 hhl hhn hC4 hb4
  rintro e w5 ⟨rfl, _, OA5, oc5, hC5, hk5⟩
  have H5 := Lib.hid (⟨hC5, hk5⟩ : _ ∧ _)
  clear hC5 hk5
  go_wp2_with fail
  refine (RecvCmd welcomeS [] readyIn w5 H5.out.1 (by rw [welcomeS_size]; decide)).mono ?_
  rintro e w6 ⟨g6, c6, IA6, ic6, rfl, hb6, hgB6, hc6, hC6, hk6, _⟩
  have H6 := Lib.hid (⟨hC6, hk6⟩ : _ ∧ _)
  clear hb6 hgB6 hC6 hk6
  generalize cutA (some ⟨g6, 0, none⟩) c6 (welcomeS.size + 1) = QA6
  generalize c6 - (welcomeS.size + 1) = qc6
  rw [show welcomeS = ⟨#[87, 69, 76, 67, 79, 77, 69]⟩ from rfl]
  have hbl7 : Below w6.heap.size w6 (w6.alloc (.cells #[.string ⟨#[87, 69, 76, 67, 79, 77, 69]⟩, .slice QA6 0 qc6] 77)) := (Below.refl _ _).alloc (Nat.le_refl _) _
  have hC7 := H6.out.1.below_ hbl7
  have q5 : (w6.alloc (.cells #[.string ⟨#[87, 69, 76, 67, 79, 77, 69]⟩, .slice QA6 0 qc6] 77)).cell? ⟨cn, 5, none⟩ = some (.map (some m1)) := hC7.conn.cell 5
  have ho6 := H6.out.1.ord
  have hk7 : Keep B [p] w (w6.alloc (.cells #[.string ⟨#[87, 69, 76, 67, 79, 77, 69]⟩, .slice QA6 0 qc6] 77)) :=
    (((Keep.of_below HK.out.2 hord.2.2.2.2).trans H5.out.2).trans H6.out.2).trans (Keep.of_below hbl7 ho6.2.2.2.2)
  have hm7 : MapIs (w6.alloc (.cells #[.string ⟨#[87, 69, 76, 67, 79, 77, 69]⟩, .slice QA6 0 qc6] 77)) m1 2 (mdX reqK) := hk7.map HC.out.2.2.2.1 (by omega) (by simp; omega)
  have H7 := Lib.hid (⟨hC7, hk7, hm7⟩ : _ ∧ _ ∧ _)
  clear hC7 hbl7 hk7 hm7
  go_wp2_with fail
  have hq8 := (Blk.new w6 77 #[.string ⟨#[87, 69, 76, 67, 79, 77, 69]⟩, .slice QA6 0 qc6])
  generalize w6.alloc (.cells #[.string ⟨#[87, 69, 76, 67, 79, 77, 69]⟩, .slice QA6 0 qc6] 77) = W7 at *
  refine (MarshalZMTP_ok m1 2 reqK W7 H7.out.2.2 (by decide) reqGood reqUsual).mono ?_
  rintro e w8 ⟨A8, c8, rfl, hr8, hb8⟩
  rw [reqLen] at hr8 ⊢
  have hC8 := H7.out.1.below_ hb8
  have ho7 := H7.out.1.ord
  have hk8 := H7.out.2.1.trans (Keep.of_below hb8 ho7.2.2.2.2)
  have H8 := Lib.hid (⟨hC8, hk8, hr8⟩ : _ ∧ _ ∧ _)
  have hq8 := hq8.after hb8 (Nat.le_refl _)
  have hl6 : ∀ ad, OA5 = some ad → ad.block < w6.heap.size := fun ad e => (H6.out.1.out.block e).2
  have H8 := Lib.hid (⟨hC8, hk8, hr8, hq8⟩ : _ ∧ _ ∧ _ ∧ _)
  clear hC8 hb8 hk8 hr8 q5 hq8
  go_wp2_with fail
  rw [show ({ data := #[73, 78, 73, 84, 73, 65, 84, 69] } : ByteArray) = initS from rfl]
  refine (SendCmd initS A8 32 c8 (encKVs reqK) w8 H8.out.1 H8.out.2.2.1 (by rw [initS_size]; decide) (by decide) (hsLen hnu hnp hon HK.out.1)).mono ?_
  rintro e w9 ⟨rfl, ha9, OA9, oc9, hC9, hk9⟩
  have hq9 := ha9.blk H8.out.2.2.2 (fun hm => by
    have := ho6
    simp only [sendBlocks, List.mem_cons, Option.mem_toList, Option.map_eq_some_iff] at hm
    rcases hm with hm | ⟨ad, h1, h2⟩
    · omega
    · have := hl6 ad h1
      omega)
  have H9 := Lib.hid (⟨hC9, H8.out.2.1.trans hk9, hq9⟩ : _ ∧ _ ∧ _)
  clear ha9 hC9 hk9 hq9
  go_wp2_with fail
  refine (RecvCmd readyS (encKVs repK) [] w9 H9.out.1 (by rw [readyS_size, repLen]; decide)).mono ?_
  rintro e w10 ⟨g10, c10, IA10, ic10, rfl, hb10, hgB10, hc10, hC10, hk10, ha10⟩
  have hq10 := ha10.blk H9.out.2.2 (by simp; omega)
  have hc10' : 25 ≤ c10 := by rw [readyS_size, repLen] at hc10; exact hc10
  have ecut : cutA (some ⟨g10, 0, none⟩) c10 (readyS.size + 1) = some ⟨g10, 6, none⟩ := by
    unfold cutA
    rw [if_neg (by rw [readyS_size]; omega)]
    rfl
  rw [ecut, repLen, readyS_size, show c10 - (5 + 1) = c10 - 6 from rfl, show readyS = ⟨#[82, 69, 65, 68, 89]⟩ from rfl]
  have x0 := hq10.cell 0
  have x1 := hq10.cell 1
  have f0 := hq10.frozen 0
  have f1 := hq10.frozen 1
  simp only [List.getElem?_toArray, List.getElem?_cons_zero, List.getElem?_cons_succ] at x0 x1
  have hkA := H9.out.2.1.trans hk10
  have hm10 : MapIs w10 m3 0 (.map []) := hkA.map HC.out.2.2.2.2 (by omega) (by simp; omega)
  have ho10 := hC10.ord
  have ha11 : Apart [w6.heap.size] w10 ((w10.setCell ⟨w6.heap.size, 0, none⟩ (.string ⟨#[82, 69, 65, 68, 89]⟩)).setCell ⟨w6.heap.size, 1, none⟩ (.slice (some ⟨g10, 6, none⟩) 19 (c10 - 6))) :=
    ((Apart.refl _ _).setN (.inl (by simp)) _).setN (.inl (by simp)) _
  have hC11 := hC10.apart_ ha11 (fun k hk => by
    simp at hk
    refine ⟨by omega, fun e => ?_⟩
    rw [hk] at e
    obtain ⟨ad, h1, h2⟩ := Option.map_eq_some_iff.1 e.symm
    exact OB.off hC10.out h1 hq10 (by decide) h2)
  have hm11 : MapIs _ m3 0 (.map []) := hm10.apart ha11 (by simp; omega)
  have hb11 := hb10.apart ha11 (by simp; intro e; exact Blk.off hb10 hq10 (by decide) e)
  have hk11 := hkA.trans (Keep.of_apart ha11 (fun k hk => by simp at hk; exact .inr (by omega)) (by omega))
  have H11 := Lib.hid (⟨hC11, hm11, hb11, hk11⟩ : _ ∧ _ ∧ _ ∧ _)
  have hq11 : Blk _ w6.heap.size 77 #[.string ⟨#[82, 69, 65, 68, 89]⟩, .slice (some ⟨g10, 6, none⟩) 19 (c10 - 6)] := (hq10.set_ 0 (.string ⟨#[82, 69, 65, 68, 89]⟩)).set_ 1 (.slice (some ⟨g10, 6, none⟩) 19 (c10 - 6))
  have HQ := Lib.hid hq11
  clear hC11 hm11 hb11 hk11 ha11 hm10 hkA hb10 hC10 hk10 ha10 hq10 ecut hq11
  go_wp2_with fail
  generalize (w10.setCell ⟨w6.heap.size, 0, none⟩ (.string ⟨#[82, 69, 65, 68, 89]⟩)).setCell ⟨w6.heap.size, 1, none⟩ (.slice (some ⟨g10, 6, none⟩) 19 (c10 - 6)) = W11 at *
  have q1 := HQ.out.cell 1
  simp only [List.getElem?_toArray, List.getElem?_cons_zero, List.getElem?_cons_succ] at q1
  have hmp : MpAt W11 cn 7 m3 := ⟨by have := H11.out.1.ord; omega, H11.out.1.conn.cell 7⟩
  have hL : (cmdBytes readyS (encKVs repK) ++ List.replicate (c10 - (1 + readyS.size + (encKVs repK).length)) 0).length = 6 + (c10 - 6) := by
    rw [List.length_append, cmdB_len, List.length_replicate, readyS_size, repLen]
    omega
  have hT : ((cmdBytes readyS (encKVs repK) ++ List.replicate (c10 - (1 + readyS.size + (encKVs repK).length)) 0).drop 6).take 19 = encKVs repK ++ [] := by
    have e1 : cmdBytes readyS (encKVs repK) = [5, 82, 69, 65, 68, 89] ++ encKVs repK := rfl
    rw [e1, List.append_assoc, List.append_nil]
    rw [show (6 : Nat) = ([5, 82, 69, 65, 68, 89] : List UInt8).length from rfl, List.drop_left, ← repLen, List.take_left]
  go_region_held3 (fun V => V.cell? ⟨w6.heap.size, 1, none⟩ = some (.slice (some ⟨g10, 6, none⟩) 19 (c10 - 6))) ((first | exact q1 | exact q12))
    (first
      | (go_at_call 136
         refine (UnmarshalAt cn 7 m3 g10 6 19 (c10 - 6) _ repK _ hmp.drew (by omega) (H11.out.2.1.apart (ps := []) (Apart.refl _ _).drew (by simp)) H11.out.2.2.1.drew hL (by omega) (by decide) hT repFit (by decide)).mono ?_
         rintro e w12 ⟨rfl, hm12, ha12⟩
         have q12 := (ha12.blk HQ.out.drew (by simp; omega)).cell 1
         simp only [List.getElem?_toArray, List.getElem?_cons_zero, List.getElem?_cons_succ] at q12))
  rename_i aK _
  refine aK _ _ ?_
  clear aK
  have ho11 := H11.out.1.ord
  have hk12 : Keep B [m3] W11 w12 := Keep.of_apart (Apart.trans ((Apart.refl _ _).drew) ha12) (fun k hk => .inl hk) (by omega)
  have hC12 := H11.out.1.next hk12 (fun k hk => by simp at hk; omega) (ha12.blk H11.out.1.pipe.drew (by simp; omega)) (fun x => x) ⟨H11.out.1.nc.1, Nat.le_refl _⟩ (ha12.ob H11.out.1.out.drew (fun ad e => by
    have := (H11.out.1.out.block e).1
    simp
    omega))
  have hsc := hC12.secb
  have e0 := hsc.frozen 0
  have e1 := hsc.frozen 1
  have d0 := hsc.cell 0
  have d1 := hsc.cell 1
  simp only [List.getElem?_toArray, List.getElem?_cons_zero, List.getElem?_cons_succ] at d0 d1
  have hkw := H11.out.2.2.2
  have HZ := Lib.hid (⟨hC12, hk12, hkw, hm12⟩ : _ ∧ _ ∧ _ ∧ _)
  clear hC12 hk12 hkw hm12 hmp hL hT hsc ha12
  go_wp2_with fail
  have hC12 := HZ.out.1
  have ho12 := hC12.ord
  have eo : outb ++ (headF true false (1 + helloS.size + (1 + nu + 1 + np)) ++ cmdBytes helloS (helloL u q)) ++ (headF true false (1 + initS.size + 32) ++ cmdBytes initS (encKVs reqK)) = outb ++ cmdF helloS (helloL u q) ++ cmdF initS (encKVs reqK) := by
    unfold cmdF
    rw [HK.out.1, reqLen]
  have hF : HsOk p sc cn m1 m3 B K m2 u q outb w (.returned .nilIface) ((w12.setCell ⟨sc, 0, none⟩ (.slice none 0 0)).setCell ⟨sc, 1, none⟩ (.slice none 0 0)) := by
    refine ⟨rfl, _, _, _, _, _, _, ⟨(hC12.conn.farN (by omega) _).farN (by omega) _, (hC12.secb.set_ 0 _).set_ 1 _, (hC12.pipe.farN (by omega) _).farN (by omega) _, (hC12.inb.setCell (p := ⟨sc, 0, none⟩) (by simp only; omega) _).setCell (p := ⟨sc, 1, none⟩) (by simp only; omega) _, hC12.nc, ?_, by rw [World.size_setCell, World.size_setCell]; omega⟩, ?_, ?_⟩
    · rw [← eo]
      exact (hC12.out.setN (by omega) _).setN (by omega) _
    · exact MapIs.apart HZ.out.2.2.2 (((Apart.refl [sc] w12).setN (.inl (by simp)) _).setN (.inl (by simp)) _) (by simp; omega)
    · exact ((HZ.out.2.2.1.more (fun k hk => by simp at hk; simp [hk])).trans (HZ.out.2.1.more (fun k hk => by simp at hk; simp [hk]))).trans (Keep.of_apart (((Apart.refl [sc] w12).setN (.inl (by simp)) _).setN (.inl (by simp)) _) (fun k hk => by simp at hk; exact .inl (by simp [hk])) (by omega))
  have HF := Lib.hid hF
  go_ret
  exact HF.out
end Go.Proofs.YtkpcepdalegmmaaGreatDoor

/-! PLAIN: a client's init. -/
namespace Go.Proofs.YtkpcepdalegmmaaGreatDoor
open Go.RowKit

theorem Keep.rb {B : Nat} {ps : List Nat} {a b : World} (h : Keep B ps a b) {C n : Nat} {A : Option Addr} {l : List UInt8} (hr : RB a C A n l) (hC : C ≤ B) (hn : ∀ ad, A = some ad → ad.block < C → ad.block ∉ ps) : RB b C A n l := by
  refine ⟨hr.1, fun h0 => ?_⟩
  obtain ⟨ad, e, hb, hc⟩ := hr.2 h0
  refine ⟨ad, e, hb, fun j u hu => (World.cell?_of_block ?_).trans (hc j u hu)⟩
  rw [block_of_add]
  exact h.block ad.block (by omega) (hn ad e hb)
set_option maxRecDepth 100000 in
theorem isCompat (w : World) : Calls Tryz.prog 40 #[.string ⟨#[82, 69, 80]⟩, .string ⟨#[82, 69, 81]⟩] w fun e w' => e = .returned (.bool true) ∧ w' = w := by
  go_enter Tryz.func40, Tryz.ntmps40
  go_wp2_with fail
  go_ret
  exact ⟨rfl, rfl⟩
theorem nameSt : nameS stS = stS := by decide +kernel
theorem repAt : ∀ z, (mdOf repK).atKey (.string stS.data.toList) z = .lit (.string repS.data.toList) := by
  intro z
  have e : mdOf repK = (DataW.map []).put (.string stS.data.toList) (.lit (.string repS.data.toList)) := by
    show putKv (.map []) ⟨stS, repS⟩ = _
    unfold putKv
    rw [nameSt]
  rw [e]
  rfl
/-- What 'init' leaves. -/
def InitOk (p sc cn m1 m3 B K : Nat) (m2 : Value) (u q : List UInt8) (w : World) (e : Ending) (w' : World) : Prop :=
  e = .returned .nilIface ∧ ∃ IA' n' c' OA' on' oc', Cli p sc cn m1 B K (.map (some m3)) m2 true (.slice none 0 0) (.slice none 0 0) IA' n' c' [] OA' on' oc' (greetM 3 0 (padTo [80, 76, 65, 73, 78]) 0 ++ cmdF helloS (helloL u q) ++ cmdF initS (encKVs reqK)) w' ∧ Keep B [p, cn, m3, sc] w w'
set_option maxRecDepth 100000 in
set_option maxHeartbeats 4000000 in
theorem initOk (p sc cn m1 m3 B K : Nat) (m2 iv : Value) (UA PA : Option Addr) (nu cu np cp : Nat) (u q : List UInt8) (IA : Option Addr) (n c : Nat) (w : World)
    (hC : Cli p sc cn m1 B K (.map (some m3)) m2 false (.slice UA nu cu) (.slice PA np cp) IA n c (greetM 3 0 (padTo [80, 76, 65, 73, 78]) 1 ++ serverIn) none 0 0 [] w) (hm1 : MapIs w m1 2 (mdX reqK)) (hm3 : MapIs w m3 0 (.map [])) (hor : sc < m1 ∧ m1 < cn ∧ cn < m3 ∧ m3 < B) (hu : RB w sc UA nu u) (hq : RB w sc PA np q) (hun : ∀ ad, UA = some ad → ad.block ≠ p) (hqn : ∀ ad, PA = some ad → ad.block ≠ p) (hnu : nu ≤ 255) (hnp : np ≤ 255) :
    Calls Tryz.prog 24 #[.pointer (some ⟨cn, 0, none⟩), iv] w (InitOk p sc cn m1 m3 B K m2 u q w) := by
  have s4 := hC.conn.cell 4
  have s4' : w.cell? ⟨cn, 4, none⟩ = some (.bool false) := s4
  have HC := Lib.hid (⟨hC, hm1, hm3, hu, hq⟩ : _ ∧ _ ∧ _ ∧ _ ∧ _)
  have hord := hC.ord
  clear hC hm1 hm3 hu hq s4
  go_enter Tryz.func24, Tryz.ntmps24
  go_wp2_with fail
  refine (greet (.map (some m3)) _ HC.out.1).mono ?_
  rintro e w1 ⟨rfl, IA1, c1, OA1, oc1, hC1, hk1⟩
  have hm11 : MapIs w1 m1 2 (mdX reqK) := hk1.map HC.out.2.1 (by omega) (by simp; omega)
  have hm31 : MapIs w1 m3 0 (.map []) := hk1.map HC.out.2.2.1 (by omega) (by simp; omega)
  have hs1 := hk1.size
  have hu1 : RB w1 w1.heap.size UA nu u := (hk1.rb HC.out.2.2.2.1 (by omega) (fun ad e hl hm => by simp at hm; have := hun ad e; omega)).more (by omega)
  have hq1 : RB w1 w1.heap.size PA np q := (hk1.rb HC.out.2.2.2.2 (by omega) (fun ad e hl hm => by simp at hm; have := hqn ad e; omega)).more (by omega)
  have c3 := hC1.pc.sec
  have c4 : w1.cell? ⟨cn, 4, none⟩ = some (.bool false) := hC1.conn.cell 4
  have nh := nil_PHandshake sc
  have mh := plain_Handshake sc
  have H1 := Lib.hid (⟨hC1, hm11, hm31, hu1, hq1, hk1⟩ : _ ∧ _ ∧ _ ∧ _ ∧ _ ∧ _)
  clear hk1 hC1 hm11 hm31 hu1 hq1 s4'
  go_wp2_with fail
  go_region_held3 (fun V => V.cell? ⟨cn, 3, none⟩ = some (.iface 68 (.pointer (some ⟨sc, 0, none⟩))) ∧ V.cell? ⟨cn, 4, none⟩ = some (.bool false)) ((first | exact ⟨c3, c4⟩ | exact ⟨d3, d4⟩))
    (first
      | (go_at_call 131
         refine (hsk p sc cn m1 m3 B K m2 UA PA nu cu np cp u q IA1 (n - 64) c1 OA1 64 oc1 _ _ (H1.out.1.below_ (Below.refl _ _).drew) H1.out.2.1 H1.out.2.2.1 hor (by omega) H1.out.2.2.2.1 H1.out.2.2.2.2.1 hnu hnp).mono ?_
         rintro e w2 ⟨rfl, IA2, n2, c2, OA2, on2, oc2, hC2, hm2, hk2⟩
         have d3 := hC2.pc.sec
         have d4 : w2.cell? ⟨cn, 4, none⟩ = some (.bool false) := hC2.conn.cell 4))
  rename_i aK _
  refine aK _ _ ?_
  clear aK
  have d7 : w2.cell? ⟨cn, 7, none⟩ = some (.map (some m3)) := hC2.conn.cell 7
  have d0 : w2.cell? ⟨cn, 0, none⟩ = some (.string ⟨#[82, 69, 81]⟩) := hC2.conn.cell 0
  have lk : (Instr.lookup 55 (.map (some m3)) (.string ⟨#[83, 111, 99, 107, 101, 116, 45, 84, 121, 112, 101]⟩) false).run Tryz.prog w2 = .ok (.string ⟨#[82, 69, 80]⟩) w2 := hm2.look stS (by decide) repS repAt
  have H2 := Lib.hid (⟨hC2, hk2⟩ : _ ∧ _)
  clear hC2 hk2 hm2 c3 c4
  go_wp2_with fail
  refine (isCompat _).mono ?_
  rintro e w3 ⟨rfl, rfl⟩
  clear d7 d0
  go_wp2_with fail
  have hF : InitOk p sc cn m1 m3 B K m2 u q w (.returned .nilIface) w3 :=
    ⟨rfl, IA2, n2, c2, OA2, on2, oc2, H2.out.1, ((H1.out.2.2.2.2.2.more (fun k hk => by simp at hk; rcases hk with h | h <;> simp [h])).trans (Keep.of_below (Below.refl w1.heap.size w1).drew (by omega))).trans (H2.out.2.more (fun k hk => by simp at hk; rcases hk with h | h | h <;> simp [h]))⟩
  have HF := Lib.hid hF
  go_ret
  exact HF.out
end Go.Proofs.YtkpcepdalegmmaaGreatDoor
