/- Parts of a proof, laid behind one another: PLAIN: what a client says, impl.Plain. PLAIN: spec.Hello. -/
import Derived.Test.YtkpcepdalegmmaaGreatDoorM29
import Derived.Test.YtkpcepdalegmmaaGreatDoorM32
import Derived.Test.YtkpcepdalegmmaaGreatDoorM31
import Derived.Test.YtkpcepdalegmmaaGreatDoorM18
/-! PLAIN: what a client says, impl.Plain. -/
namespace Go.Proofs.YtkpcepdalegmmaaGreatDoor
open Go.RowKit

/-- The two frames that a client sends. -/
def saidF (hl : List UInt8) : List Fr := [⟨true, false, none, (cmdBytes helloS hl).length, 0, cmdBytes helloS hl⟩, ⟨true, false, none, (cmdBytes initS (encKVs reqK)).length, 0, cmdBytes initS (encKVs reqK)⟩]
theorem said_encs (hl : List UInt8) : encs (saidF hl) = cmdF helloS hl ++ cmdF initS (encKVs reqK) := by
  simp [encs, saidF, encF, cmdF, cmdB_len]
theorem said_stream {hl : List UInt8} (h : hl.length ≤ 800) : ∃ ms, Stream (cmdF helloS hl ++ cmdF initS (encKVs reqK)) ms true ∧ (saidF hl).map keyOf = keysAll ms := by
  rw [← said_encs]
  have h1 : (cmdBytes helloS hl).length ≤ 1000 := by rw [cmdB_len, helloS_size]; omega
  have h2 : (cmdBytes initS (encKVs reqK)).length ≤ 1000 := by rw [cmdB_len, initS_size, reqLen]; decide
  refine stream_ok 2 (saidF hl) (by simp [saidF]) ?_ ?_
  · intro x hx
    simp only [saidF, List.mem_cons, List.not_mem_nil, or_false] at hx
    rcases hx with rfl | rfl
    · exact ⟨rfl, h1⟩
    · exact ⟨rfl, h2⟩
  · unfold saidF
    unfold goodRun
    rw [badF_small (by simp only; omega)]
    unfold goodRun
    rw [badF_small (by simp only; omega)]
    rfl
theorem cmdF_le (name : ByteArray) (body : List UInt8) : (cmdF name body).length ≤ 10 + name.size + body.length := by
  have h1 := headF_le true false (1 + name.size + body.length)
  unfold cmdF
  rw [List.length_append, cmdB_len]
  omega
theorem said_len {hl : List UInt8} (h : hl.length ≤ 800) : 64 ≤ (greetM 3 0 (padTo [80, 76, 65, 73, 78]) 0 ++ cmdF helloS hl ++ cmdF initS (encKVs reqK)).length ∧ (greetM 3 0 (padTo [80, 76, 65, 73, 78]) 0 ++ cmdF helloS hl ++ cmdF initS (encKVs reqK)).length ≤ 2000 := by
  have h1 := cmdF_le helloS hl
  have h2 := cmdF_le initS (encKVs reqK)
  have h3 : (greetM 3 0 (padTo [80, 76, 65, 73, 78]) 0).length = 64 := rfl
  rw [helloS_size] at h1
  rw [initS_size, reqLen] at h2
  rw [List.length_append, List.length_append, h3]
  omega
theorem said_drop (hl : List UInt8) : (greetM 3 0 (padTo [80, 76, 65, 73, 78]) 0 ++ cmdF helloS hl ++ cmdF initS (encKVs reqK)).drop 64 = cmdF helloS hl ++ cmdF initS (encKVs reqK) := by
  have h3 : (greetM 3 0 (padTo [80, 76, 65, 73, 78]) 0).length = 64 := rfl
  rw [List.append_assoc, ← h3, List.drop_left]
/-- What the closure of 'Plain' leaves. -/
def PlainGot (pb pk : Nat) (hl : List UInt8) (w : World) (e : Ending) (w' : World) : Prop :=
  e = .returned (.tuple #[]) ∧ ∃ A n c, Blk w' pb 23 #[.slice A n c] ∧ Blk w' pk 4 #[.bool true] ∧ OB w' w.heap.size A n c hl ∧ Apart [pb, pk] w w'
set_option maxRecDepth 100000 in
set_option maxHeartbeats 4000000 in
theorem Plain_f (pu pw pb pk : Nat) (U P : ByteArray) (w : World) (hU : U.size ≤ 255) (hP : P.size ≤ 255) (b0 : Blk w pu 9 #[.string U]) (b1 : Blk w pw 9 #[.string P]) (b2 : Blk w pb 23 #[.slice none 0 0]) (b3 : Blk w pk 4 #[.bool false]) :
    Calls Tryz.prog 9 #[.pointer (some ⟨pu, 0, none⟩), .pointer (some ⟨pw, 0, none⟩), .pointer (some ⟨pb, 0, none⟩), .pointer (some ⟨pk, 0, none⟩)] w (PlainGot pb pk (helloL U.data.toList P.data.toList) w) := by
  have HB := Lib.hid (⟨b0, b1, b2, b3⟩ : _ ∧ _ ∧ _ ∧ _)
  have l2 := b2.lt
  have l3 := b3.lt
  have l23 : pb ≠ pk := b2.ne_ b3 (by decide)
  clear b0 b1 b2 b3
  go_enter Tryz.func9, Tryz.ntmps9
  go_wp2_with fail
  refine (peer _).mono ?_
  rintro e w1 ⟨A1, n1, c1, rfl, ho1, hb1⟩
  have hn1 : n1 = 101 := by rw [← ho1.len]; decide +kernel
  subst hn1
  have h02 : Below w.heap.size w (w1.alloc (.cells #[.slice A1 101 c1, .slice none 0 0] 36)) := hb1.alloc hb1.size _
  have q0 := (HB.out.1.after h02 (Nat.le_refl _)).cell0
  have q1 := (HB.out.2.1.after h02 (Nat.le_refl _)).cell0
  have hp1 := Blk.new w1 36 #[.slice A1 101 c1, .slice none 0 0]
  have hin1 := ho1.rb.alloc (Nat.le_refl _) (.cells #[.slice A1 101 c1, .slice none 0 0] 36)
  have H1 := Lib.hid (⟨h02, hp1, hin1, ho1.nc⟩ : _ ∧ _ ∧ _ ∧ _)
  have hs1 := hb1.size
  have hsz1 : (w1.alloc (.cells #[.slice A1 101 c1, .slice none 0 0] 36)).heap.size = w1.heap.size + 1 := by simp
  clear h02 hp1 hin1 ho1 hb1
  go_wp2_with fail
  generalize w1.alloc (.cells #[.slice A1 101 c1, .slice none 0 0] 36) = W1 at *
  refine (secOf U P _).mono ?_
  rintro e w2 ⟨sc, ub, qb, cu, cp, rfl, hsc, hru, hrq, hl1, hl2, hl3, hb2⟩
  have hp2 := H1.out.2.1.after hb2 (Nat.le_refl _)
  have hin2 : RB w2 w1.heap.size A1 101 _ := H1.out.2.2.1.below (hb2.mono (by omega))
  have H2 := Lib.hid (⟨hp2, hin2, hsc, hru, hrq, hb2⟩ : _ ∧ _ ∧ _ ∧ _ ∧ _ ∧ _)
  clear hp2 hin2 hsc hru hrq hb2 q0 q1
  go_wp2_with fail
  refine (openOk w1.heap.size sc w1.heap.size (some ⟨ub, 0, none⟩) (some ⟨qb, 0, none⟩) U.size cu P.size cp U.data.toList P.data.toList A1 101 c1 _ H2.out.1 H2.out.2.2.1 H2.out.2.1 ⟨H1.out.2.2.2, by decide⟩ ⟨Nat.le_refl _, by omega⟩ H2.out.2.2.2.1 H2.out.2.2.2.2.1 (fun ad e => by cases e; simp only; omega) (fun ad e => by cases e; simp only; omega) hU hP).mono ?_
  rintro e w3 ⟨cn, B, m1, m3, m2, IA3, n3, c3, OA3, on3, oc3, rfl, hC3, ha3⟩
  have hll : (helloL U.data.toList P.data.toList).length ≤ 800 := by
    have e1 : U.data.size = U.size := rfl
    have e2 : P.data.size = P.size := rfl
    simp [helloL]
    omega
  have hlen := hC3.out.len
  obtain ⟨h64, h2000⟩ := said_len hll
  rw [hlen] at h64 h2000
  obtain ⟨ms, hst, hkk⟩ := said_stream hll
  have hcap := hC3.out.nc
  have hr3 := hC3.out.rb.cutEnd (lo := 64) h64 hcap
  rw [said_drop] at hr3
  have sl : ∀ W, (Instr.slice 23 (.slice OA3 on3 oc3) (some (.int .i64 64)) none none).run Tryz.prog W = .ok (.slice (cutA OA3 oc3 64) (on3 - 64) (oc3 - 64)) W := fun W => run_slice_lo OA3 on3 oc3 W 64 h64
  have x1 := hC3.pipe.cell 1
  simp only [List.getElem?_toArray, List.getElem?_cons_zero, List.getElem?_cons_succ] at x1
  have hsz2 := H2.out.2.2.2.2.2.size
  have hb3 : Below w.heap.size w w3 := (below_seq H1.out.1 H2.out.2.2.2.2.2 (by omega)).trans (ha3.below (by omega) (fun k hk => by simp at hk; omega))
  have H3 := Lib.hid (⟨hst, hkk, hr3, hb3⟩ : _ ∧ _ ∧ _ ∧ _)
  clear hst hkk hr3 hb3 hlen hC3 ha3 hll
  go_wp2_with fail
  refine (ParseFrames _ (on3 - 64) (oc3 - 64) _ ms true w3 H3.out.2.2.1 (by omega) H3.out.1).mono ?_
  rintro e w4 ⟨hpt, _, hb4⟩
  obtain ⟨FA, fc, os, rfl, how, hbo, hok⟩ := hpt rfl
  have hke : os.map keyOf = (saidF (helloL U.data.toList P.data.toList)).map keyOf := hok.trans H3.out.2.1.symm
  simp only [saidF, List.map_cons, List.map_nil] at hke
  obtain ⟨o1, r1, e1, k1, hke⟩ := List.map_eq_cons_iff.1 hke
  obtain ⟨o2, r2, e2, k2, hke⟩ := List.map_eq_cons_iff.1 hke
  have e3 := List.map_eq_nil_iff.1 hke
  subst e3
  subst e2
  subst e1
  obtain ⟨f1, f2, fA, fn, fcc, fb⟩ := o1
  simp only [keyOf, Prod.mk.injEq] at k1
  obtain ⟨rfl, rfl, rfl⟩ := k1
  have hob := hbo _ (List.mem_cons_self ..)
  simp only at hob
  have hfl : fn = (cmdBytes helloS (helloL U.data.toList P.data.toList)).length := hob.len.symm
  have hfr : FrS w4 w4.heap.size FA 2 _ := ⟨Reads.of_own how, fun f hf => ⟨(hbo f hf).rb, (hbo f hf).nc⟩⟩
  obtain ⟨ad, fx, rfl, hadb, hf, z1, z2, z3⟩ := hfr.at_ (i := 0) (by decide)
  simp only [List.getElem?_cons_zero, Option.some.injEq] at hf
  subst hf
  have ead : ad.add (0 * 3) = ad := by simp [Addr.add]
  rw [ead] at z1 z3
  simp only at z1 z3
  have H4 := Lib.hid (⟨hob, hfl, hb4⟩ : _ ∧ _ ∧ _)
  clear how hbo hok hke hob hfl hfr hb4 hpt z2
  simp only [List.length_cons, List.length_nil]
  go_wp2_with fail
  have hd5 : helloS.data.toList = [72, 69, 76, 76, 79] := rfl
  have hfn : fn = 6 + (helloL U.data.toList P.data.toList).length := by rw [H4.out.2.1, cmdB_len, helloS_size]
  have hl8 : (helloL U.data.toList P.data.toList).length ≤ 800 := by
    have e1 : U.data.size = U.size := rfl
    have e2 : P.data.size = P.size := rfl
    simp [helloL]
    omega
  refine (ParseCommand fA fn fcc _ w4 H4.out.1.rb (by omega) helloS (helloL U.data.toList P.data.toList) true (.inl ⟨rfl, 5, [72, 69, 76, 76, 79] ++ helloL U.data.toList P.data.toList, rfl, by show 5 < fn; omega, rfl, rfl⟩)).mono ?_
  rintro e w5 ⟨A5, n5, c5, rfl, ho5, hb5⟩
  rw [show helloS = ⟨#[72, 69, 76, 76, 79]⟩ from rfl]
  have h34 : Below w.heap.size w w5 := below_seq (below_seq H3.out.2.2.2 H4.out.2.2 H3.out.2.2.2.size) hb5 (Nat.le_trans H3.out.2.2.2.size H4.out.2.2.size)
  have hpb := HB.out.2.2.1.after h34 (Nat.le_refl _)
  have hpk := HB.out.2.2.2.after h34 (Nat.le_refl _)
  have s0 := hpb.cell0
  have s1 := hpk.cell0
  have t0 := hpb.frozen 0
  have t1 := hpk.frozen 0
  have hs4 : w.heap.size ≤ w4.heap.size := Nat.le_trans H3.out.2.2.2.size H4.out.2.2.size
  have H5 := Lib.hid (⟨ho5, h34, hpb, hpk⟩ : _ ∧ _ ∧ _ ∧ _)
  clear ho5 h34 hpb hpk hb5 hfn hl8 hd5
  go_wp2_with fail
  have hF : PlainGot pb pk (helloL U.data.toList P.data.toList) w (.returned (.tuple #[])) ((w5.setCell ⟨pb, 0, none⟩ (.slice A5 n5 c5)).setCell ⟨pk, 0, none⟩ (.bool true)) := by
    obtain ⟨ho5, h34, hpb, hpk⟩ := H5.out
    have a5 : pb < w5.heap.size := hpb.lt
    refine ⟨rfl, A5, n5, c5, (hpb.setN _).farN l23 _, (hpk.farN (Ne.symm l23) _).setN _, ((ho5.more hs4).setN l2 _).setN l3 _, ((Apart.of_below h34).setN (.inl (by simp)) _).setN (.inl (by simp)) _⟩
  exact bodyPost_end (results_none rfl _ _ _) rfl hF

/-- What 'Plain' answers. -/
def PlainSaid (hl : List UInt8) (w : World) (e : Ending) (w' : World) : Prop :=
  ∃ A n c, e = .returned (.tuple #[.slice A n c, .bool true]) ∧ OB w' w.heap.size A n c hl ∧ Below w.heap.size w w'
set_option maxRecDepth 100000 in
theorem Plain (U P : ByteArray) (w : World) (hU : U.size ≤ 255) (hP : P.size ≤ 255) : Calls Tryz.prog 5 #[.string U, .string P] w (PlainSaid (helloL U.data.toList P.data.toList) w) := by
  have hmf : ∀ (fn : Fn) (first cap : Array Value) (w : World), (Instr.makeFunc fn first cap).run Tryz.prog w = .ok (.func fn first cap) w := fun _ _ _ _ => rfl
  go_enter Tryz.func5, Tryz.ntmps5
  go_wp2_with fail
  refine (quietly_any 9 _ _ (fun q w' => q = true ∧ ∃ A2 n2 c2, OB w' (w.heap.size + 5) A2 n2 c2 (helloL U.data.toList P.data.toList) ∧ Blk w' (w.heap.size + 1 + 1) 23 #[.slice A2 n2 c2] ∧ Blk w' (w.heap.size + 1 + 1 + 1) 4 #[.bool true] ∧ Below w.heap.size w w') (fun W => rfl) ?_).mono ?_
  · have b0 := (((Blk.new w 9 #[.string U]).alloc (.cells #[.string P] 9)).alloc (.cells #[.slice none 0 0] 23)).alloc (.cells #[.bool false] 4) |>.alloc (.cells #[.bool false] 4)
    have b1 := ((Blk.new (w.alloc (.cells #[.string U] 9)) 9 #[.string P]).alloc (.cells #[.slice none 0 0] 23)).alloc (.cells #[.bool false] 4) |>.alloc (.cells #[.bool false] 4)
    have b2 := (Blk.new ((w.alloc (.cells #[.string U] 9)).alloc (.cells #[.string P] 9)) 23 #[.slice none 0 0]).alloc (.cells #[.bool false] 4) |>.alloc (.cells #[.bool false] 4)
    have b3 := (Blk.new (((w.alloc (.cells #[.string U] 9)).alloc (.cells #[.string P] 9)).alloc (.cells #[.slice none 0 0] 23)) 4 #[.bool false]).alloc (.cells #[.bool false] 4)
    have b4 := Blk.new ((((w.alloc (.cells #[.string U] 9)).alloc (.cells #[.string P] 9)).alloc (.cells #[.slice none 0 0] 23)).alloc (.cells #[.bool false] 4)) 4 #[.bool false]
    have hb5 : Below w.heap.size w (((((w.alloc (.cells #[.string U] 9)).alloc (.cells #[.string P] 9)).alloc (.cells #[.slice none 0 0] 23)).alloc (.cells #[.bool false] 4)).alloc (.cells #[.bool false] 4)) := below_new (below_new (below_new (below_new (below_new (Below.refl _ _)))))
    have e5 : (((((w.alloc (.cells #[.string U] 9)).alloc (.cells #[.string P] 9)).alloc (.cells #[.slice none 0 0] 23)).alloc (.cells #[.bool false] 4)).alloc (.cells #[.bool false] 4)).heap.size = w.heap.size + 5 := by simp
    generalize (((((w.alloc (.cells #[.string U] 9)).alloc (.cells #[.string P] 9)).alloc (.cells #[.slice none 0 0] 23)).alloc (.cells #[.bool false] 4)).alloc (.cells #[.bool false] 4)) = W at *
    simp only [World.size_alloc] at *
    refine (Plain_f w.heap.size (w.heap.size + 1) (w.heap.size + 1 + 1) (w.heap.size + 1 + 1 + 1) U P W hU hP b0 b1 b2 b3).mono ?_
    rintro e w' ⟨rfl, A2, n2, c2, t2, t3, ho, ha⟩
    have t4 := ha.blk b4 (by simp; omega)
    rw [e5] at ho
    exact ⟨t4.cell0, t4.frozen 0, .inl ⟨rfl, rfl, A2, n2, c2, ho, t2, t3, hb5.trans (ha.below (by omega) (by simp; omega))⟩⟩
  rintro e w' ⟨q, w1, rfl, ⟨rfl, A2, n2, c2, ho, t2, t3, hb⟩, rfl⟩
  simp only [World.size_alloc]
  have t2 := t2.farN (b := w.heap.size + 1 + 1 + 1 + 1) (o := 0) (by omega) (.bool true)
  have t3 := t3.farN (b := w.heap.size + 1 + 1 + 1 + 1) (o := 0) (by omega) (.bool true)
  have ho := ho.setN (b := w.heap.size + 1 + 1 + 1 + 1) (o := 0) (by omega) (.bool true)
  have hb := below_setN (b := w.heap.size + 1 + 1 + 1 + 1) (o := 0) hb (by omega) (.bool true)
  generalize w1.setCell ⟨w.heap.size + 1 + 1 + 1 + 1, 0, none⟩ (.bool true) = W at *
  have c2' := t2.cell0
  have c3 := t3.cell0
  have f2 := t2.frozen 0
  have f3 := t3.frozen 0
  have HT := Lib.hid (⟨t2, t3, ho, hb⟩ : _ ∧ _ ∧ _ ∧ _)
  clear t2 t3 ho hb hmf
  go_wp2_with fail
  obtain ⟨t2, t3, ho, hb⟩ := HT.out
  have k2 := ((t2.setN (.slice A2 n2 c2)).farN (b := w.heap.size + 1 + 1 + 1) (o := 0) (by omega) (.bool true)).cell0
  have k3 := ((t3.farN (b := w.heap.size + 1 + 1) (o := 0) (by omega) (.slice A2 n2 c2)).setN (.bool true)).cell0
  refine bodyPost_ret (v := .tuple #[(.slice A2 n2 c2), .bool true]) (by simp [results, Tryz.results5, go_sem, k2, k3]) rfl ⟨_, _, _, rfl, ?_, ?_⟩
  · exact ((ho.setN (by omega) _).setN (by omega) _).more (by omega)
  · exact below_setN (below_setN hb (by omega) _) (by omega) _
end Go.Proofs.YtkpcepdalegmmaaGreatDoor

/-! PLAIN: spec.Hello. -/
namespace Go.Proofs.YtkpcepdalegmmaaGreatDoor
open Go.RowKit

set_option maxRecDepth 100000 in
theorem specHello (U P : ByteArray) (w : World) (hU : U.size ≤ 255) (hP : P.size ≤ 255) : Calls Tryz.prog 6 #[.string U, .string P] w fun e w' => ∃ A n c, e = .returned (.slice A n c) ∧ OB w' w.heap.size A n c (helloL U.data.toList P.data.toList) ∧ Below w.heap.size w w' := by
  go_enter Tryz.func6, Tryz.ntmps6
  go_wp2_with (first
    | (at_builtin
       refine wpl_appB rfl (.tmp 9) (.tmp 10) 9 rfl w.heap.size _ 1 1 [UInt8.ofNat U.size] rfl (OB.lit w _ (Nat.le_refl _) _ _ (lit1' hU) 1 rfl (by decide)) _ _ _ rfl (srcS U) (1 + U.size) rfl (by omega) (by simp) ?_
       intro A1 c1 w1 ho1 hg1 ha1
       have hb1 : Below w.heap.size w w1 := ((Below.refl _ w).alloc (Nat.le_refl _) _).grown hg1 (by simp) (fun k hk => by cases hk; exact Nat.le_refl _)
       have hs1 := hb1.size)
    | (at_builtin
       refine wpl_appB rfl (.tmp 12) (.tmp 16) 23 rfl w.heap.size _ (1 + U.size) _ _ rfl (ho1.alloc _) _ 1 [UInt8.ofNat P.size] rfl ?s1 (1 + U.size + 1) rfl (by omega) ?s2 ?_
       case s1 => exact srcB (OB.lit _ _ (Nat.le_refl _) _ _ (lit1' hP) 1 rfl (by decide)).rb
       case s2 => simp; omega
       intro A2 c2 w2 ho2 hg2 ha2
       have hb2 : Below w.heap.size w w2 := (hb1.alloc hs1 _).grown hg2 (by simp; omega) (fun k hk => ho1.base_le hk)
       have hs2 := hb2.size)
    | (at_builtin
       refine wpl_appB rfl (.tmp 17) (.tmp 18) 9 rfl w.heap.size _ (1 + U.size + 1) _ _ rfl ho2 _ _ _ rfl (srcS P) (1 + U.size + 1 + P.size) rfl (by omega) hs2 ?_
       intro A3 c3 w3 ho3 hg3 ha3
       have hb3 : Below w.heap.size w w3 := hb2.grown hg3 hs2 (fun k hk => ho2.base_le hk)))
  have e : ([UInt8.ofNat U.size] ++ U.data.toList ++ [UInt8.ofNat P.size] ++ P.data.toList : List UInt8) = helloL U.data.toList P.data.toList := by
    simp [helloL]
  rw [e] at ho3
  go_ret
  exact ⟨A3, _, c3, rfl, ho3, hb3⟩
end Go.Proofs.YtkpcepdalegmmaaGreatDoor
