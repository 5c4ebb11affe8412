/- Parts of a proof, laid behind one another: Properties: Property.Read. Properties: Buffer.property, Buffer.Bytes. -/
import Derived.Test.YtkpcepdalegmmaaGreatDoorM11
import Derived.Test.YtkpcepdalegmmaaGreatDoorM12
import Derived.Test.YtkpcepdalegmmaaGreatDoorM02
import Derived.Deep.RegionLaw
/-! Properties: Property.Read. -/
namespace Go.Proofs.YtkpcepdalegmmaaGreatDoor
open Go.RowKit

theorem four_of {l : List UInt8} (h : 4 ≤ l.length) : ∃ a b c d r, l = a :: b :: c :: d :: r := by
  match l, h with
  | a :: b :: c :: d :: r, _ => exact ⟨a, b, c, d, r, rfl⟩
theorem set_mid4 (A r : List UInt8) (a b c d b0 b1 b2 b3 : UInt8) (n : Nat) (hn : A.length = n) :
    ((((A ++ a :: b :: c :: d :: r).set n b0).set (n + 1) b1).set (n + 2) b2).set (n + 3) b3 = A ++ b0 :: b1 :: b2 :: b3 :: r := by
  subst hn
  rw [List.set_append_right _ _ (by omega), List.set_append_right _ _ (by omega), List.set_append_right _ _ (by omega), List.set_append_right _ _ (by omega)]
  rw [Nat.sub_self, show A.length + 1 - A.length = 1 by omega, show A.length + 2 - A.length = 2 by omega, show A.length + 3 - A.length = 3 by omega]
  rfl
theorem read_list {L : List UInt8} {k b0 b1 b2 b3 : UInt8} {t v : List UInt8} {n m : Nat} (hL : L.length = 512) (ht : t.length = n) (hv : v.length = m) (hn : n ≤ 100) :
    (splice (((((splice (L.set 0 k) 1 t).set (1 + n) b0).set (1 + n + 1) b1).set (1 + n + 2) b2).set (1 + n + 3) b3) (1 + n + 4) v).take (5 + n + m) = k :: (t ++ (b0 :: b1 :: b2 :: b3 :: v)) := by
  have hM : (splice (L.set 0 k) 1 t).length = 512 := by rw [splice_length (by rw [List.length_set]; omega), List.length_set, hL]
  have hT : (splice (L.set 0 k) 1 t).take (1 + n) = k :: t := by
    cases L with
    | nil => cases hL
    | cons x r =>
      show (k :: (t ++ (k :: r).drop (1 + t.length))).take (1 + n) = _
      rw [Nat.add_comm, List.take_succ_cons, ← ht, List.take_left' rfl]
  generalize splice (L.set 0 k) 1 t = M at *
  obtain ⟨a, b, c, d, r, hr⟩ := four_of (l := M.drop (1 + n)) (by rw [List.length_drop]; omega)
  have hM2 : M = (k :: t) ++ a :: b :: c :: d :: r := by rw [← hT, ← hr, List.take_append_drop]
  rw [hM2, set_mid4 (k :: t) r a b c d b0 b1 b2 b3 (1 + n) (by rw [List.length_cons, ht]; omega)]
  have e : (k :: t) ++ b0 :: b1 :: b2 :: b3 :: r = ((k :: t) ++ [b0, b1, b2, b3]) ++ r := by simp
  have hl4 : ((k :: t) ++ [b0, b1, b2, b3]).length = 1 + n + 4 := by simp [ht]; omega
  unfold splice
  rw [e, List.take_left' hl4, List.take_left' (by rw [List.length_append, hl4, hv]; omega)]
  simp
/-- What Read writes. -/
def propL (K V : ByteArray) : List UInt8 := encKV ⟨titleS K, V⟩
set_option maxRecDepth 100000 in
theorem Read_ok (g : Nat) (L : List UInt8) (K V : ByteArray) (T : TypeId) (w : World) (hg : BB w g T L) (hL : L.length = 512) (hk : K.size ≤ 100) (hv : V.size ≤ 300) :
    Calls Tryz.prog 51 #[.agg #[.string K, .string V], .slice (some ⟨g, 0, none⟩) 512 512] w fun ed w' => ed = .returned (.tuple #[.int .i64 (1 + K.size + 4 + V.size : Int), .iface 87 (.string ⟨#[69, 79, 70]⟩)]) ∧ (∃ L', BB w' g T L' ∧ L'.length = 512 ∧ L'.take (5 + K.size + V.size) = propL K V) ∧ Apart [g] w w' := by
  have hgl := hg.lt
  have hL5 := hL
  have b0 := Blk.new w 99 #[.string K, .string V]
  have hg0 := hg.alloc (.cells #[.string K, .string V] 99)
  have c0 := hg0.cell (i := 0) (by omega)
  have f0 := hg0.frozen 0
  have HA := Lib.hid (⟨hL, hgl, b0, hg0⟩ : _ ∧ _ ∧ _ ∧ _)
  have s1 := fun W => run_slice_mid (g := g) (i := 0) (m := 512) (cp := 512) (lo := 1) (hi := 1 + K.size) (n := K.size) W (by omega) (by omega) (by omega) (by omega) 1 (1 + (K.size : Int)) rfl (by omega)
  have s2 := fun W => run_slice_mid (g := g) (i := 0) (m := 512) (cp := 512) (lo := 1 + K.size) (hi := 1 + K.size + 4) (n := 4) W (by omega) (by omega) (by omega) (by omega) (1 + (K.size : Int)) (1 + (K.size : Int) + 4) (by omega) (by omega)
  have s3 := fun W => run_slice_mid (g := g) (i := 0) (m := 512) (cp := 512) (lo := 1 + K.size + 4) (hi := 1 + K.size + 4 + V.size) (n := V.size) W (by omega) (by omega) (by omega) (by omega) (1 + (K.size : Int) + 4) (1 + (K.size : Int) + 4 + (V.size : Int)) (by omega) (by omega)
  clear hL hgl b0 hg0
  go_enter Tryz.func51, Tryz.ntmps51
  go_wp2_with fail
  clear c0 f0
  obtain ⟨hL, hgl, b0, hg0⟩ := HA.out
  have ek : (K.size : Int) = ((UInt8.ofNat K.size).toNat : Int) := by
    have : (UInt8.ofNat K.size).toNat = K.size := by simp; omega
    rw [this]
  have hb1 : Blk ((w.alloc (.cells #[.string K, .string V] 99)).setCell ⟨g, 0, none⟩ (.int .u8 K.size)) w.heap.size 99 #[.string K, .string V] := b0.farN (b := g) (o := 0) (by omega) _
  have hg1 : BB ((w.alloc (.cells #[.string K, .string V] 99)).setCell ⟨g, 0, none⟩ (.int .u8 K.size)) g T (L.set 0 (UInt8.ofNat K.size)) := by
    have := hg0.set 0 (UInt8.ofNat K.size)
    rw [← ek] at this
    exact this
  have ha1 : Apart [g] w ((w.alloc (.cells #[.string K, .string V] 99)).setCell ⟨g, 0, none⟩ (.int .u8 K.size)) := ((Apart.refl [g] w).alloc _).setN (.inl (by simp)) _
  have hl1 : (L.set 0 (UInt8.ofNat K.size)).length = 512 := by rw [List.length_set, hL]
  have hz1 : w.heap.size < ((w.alloc (.cells #[.string K, .string V] 99)).setCell ⟨g, 0, none⟩ (.int .u8 K.size)).heap.size := hb1.lt
  generalize ((w.alloc (.cells #[.string K, .string V] 99)).setCell ⟨g, 0, none⟩ (.int .u8 K.size)) = W at *
  have k0 := hb1.cell 0
  simp only [List.getElem?_toArray, List.getElem?_cons_zero] at k0
  have HB := Lib.hid (⟨hb1, hg1, ha1, hl1, hz1⟩ : _ ∧ _ ∧ _ ∧ _ ∧ _)
  clear hb1 hg1 ha1 hl1 hz1 hL b0 hg0 ek HA
  have hne : w.heap.size ≠ g := by omega
  have y1 : IntKind.i64.wrap (1 + (K.size : Int)) = 1 + (K.size : Int) := by rw [IntKind.wrap_i64]; omega
  simp only [Nat.zero_add] at s1 s2 s3
  have ht1 : (titleL K.data.toList).length = K.size := by unfold titleL; rw [titleRun_length]; simp
  have ht2 : ∀ V : World, (Builtin.lenOf (.string ⟨(titleL K.data.toList).toArray⟩)).run Tryz.prog V = .ok K.size V := fun V => by
    have h := lenOf_string ⟨(titleL K.data.toList).toArray⟩ V
    have e : (⟨(titleL K.data.toList).toArray⟩ : ByteArray).size = K.size := by rw [← ht1]; rfl
    rw [e] at h
    exact h
  have ht3 : ∀ V : World, (Builtin.firstCells 1 K.size (.string ⟨(titleL K.data.toList).toArray⟩)).run Tryz.prog V = .ok (bv (titleL K.data.toList)).toArray V := fun V => by
    have h := first_string ⟨(titleL K.data.toList).toArray⟩ V
    have e : (⟨(titleL K.data.toList).toArray⟩ : ByteArray).size = K.size := by rw [← ht1]; rfl
    rw [e] at h
    exact h
  have ht4 : 1 + K.size ≤ (L.set 0 (UInt8.ofNat K.size)).length := by rw [HB.out.2.2.2.1]; omega
  have HT := Lib.hid (⟨ht1, ht2, ht3, ht4⟩ : _ ∧ _ ∧ _ ∧ _)
  clear ht1 ht2 ht3 ht4
  go_region_held3 (fun U => U.cell? ⟨w.heap.size, 0, none⟩ = some (.string K)) (first | exact k0 | exact k1 | exact k2)
    (first
      | (go_at_call 73
         refine (toTitle K _ (by omega)).mono ?_
         rintro e w1 ⟨rfl, hw1⟩
         have hw2 : Below W.heap.size W w1 := (Below.refl _ W).drew.trans hw1
         have hG1 := HB.out.2.1.after hw2 (Nat.le_refl _)
         have hB1 := HB.out.1.after hw2 (Nat.le_refl _)
         have k1 := hB1.cell 0)
      | (with_reducible refine st_at 40 ?_
         refine st_copyB rfl (.tmp 36) (.tmp 39) 9 rfl g 1 K.size 511 T (.string ⟨(titleL K.data.toList).toArray⟩) K.size (L.set 0 (UInt8.ofNat K.size)) (titleL K.data.toList) K.size rfl rfl hG1.drew HT.out.2.1 (Nat.min_self _) (HT.out.2.2.1 _) HT.out.1 HT.out.2.2.2 ?_
         intro w2 hG2 ha2 hs2
         have hB2 := ha2.blk hB1 (by simpa using hne)
         have k2 := hB2.cell 0))
  rename_i aK _
  refine aK _ _ ?_
  obtain ⟨hb1, hg1, ha1, hl1, hz1⟩ := HB.out
  have ha2' : Apart [g] w w2 := ((ha1.then_below hw2).trans (ha2.mono (fun k _ h => h)))
  have hl2 : (splice (L.set 0 (UInt8.ofNat K.size)) 1 (titleL K.data.toList)).length = 512 := by rw [splice_length (by rw [HT.out.1]; exact HT.out.2.2.2), hl1]
  have HC := Lib.hid (⟨ha2', hB2, hG2, hl2⟩ : _ ∧ _ ∧ _ ∧ _)
  clear hb1 hg1 ha1 hl1 hz1 HB k0 k1 hw1 hw2 hG1 hB1 ha2 ha2' hG2 hB2 hl2 hs2
  clear k2
  go_wp2_with fail
  have h3 := HC.out.2.2.2
  have h4 := HC.out.2.2.1
  generalize hM : splice (L.set 0 (UInt8.ofNat K.size)) 1 (titleL K.data.toList) = M at h3 h4
  refine (bePutUint32 g (1 + K.size) 4 (512 - (1 + K.size)) V.size T M w2 h4 (by decide) (by decide) (by rw [h3]; omega) (by omega)).mono ?_
  rintro e w3 ⟨rfl, hG3, ha3, hs3⟩
  have hB3 := ha3.blk HC.out.2.1 (by simpa using hne)
  have k3 := hB3.cell 1
  simp only [List.getElem?_toArray, List.getElem?_cons_zero, List.getElem?_cons_succ] at k3
  have ha3' : Apart [g] w w3 := HC.out.1.trans (ha3.mono (fun k _ h => h))
  have y2 : IntKind.i64.wrap (1 + (K.size : Int) + 4) = 1 + (K.size : Int) + 4 := by rw [IntKind.wrap_i64]; omega
  have y3 : IntKind.i64.wrap (1 + (K.size : Int) + 4 + (V.size : Int)) = 1 + (K.size : Int) + 4 + (V.size : Int) := by rw [IntKind.wrap_i64]; omega
  have hl3 : ((((M.set (1 + K.size) (UInt8.ofNat (V.size / 16777216))).set (1 + K.size + 1) (UInt8.ofNat (V.size / 65536))).set (1 + K.size + 2) (UInt8.ofNat (V.size / 256))).set (1 + K.size + 3) (UInt8.ofNat V.size)).length = 512 := by simp only [List.length_set]; exact h3
  generalize hN : ((((M.set (1 + K.size) (UInt8.ofNat (V.size / 16777216))).set (1 + K.size + 1) (UInt8.ofNat (V.size / 65536))).set (1 + K.size + 2) (UInt8.ofNat (V.size / 256))).set (1 + K.size + 3) (UInt8.ofNat V.size)) = N at hG3 hl3
  have hv1 : V.data.toList.length = V.size := by simp
  have hz3 := hB3.lt
  have HD := Lib.hid (⟨ha3', hG3, hl3, hN, hM⟩ : _ ∧ _ ∧ _ ∧ _ ∧ _)
  have hf : 1 + K.size + 4 + V.size ≤ N.length := by rw [hl3]; omega
  have HF := Lib.hid hf
  have HV := Lib.hid hv1
  clear ha3' hG3 hl3 hN hM h3 h4 HC ha3 hs3 hB3 hf hv1
  go_wp2_with fail
  go_region_held3 (fun U => U.cell? ⟨w.heap.size, 1, none⟩ = some (.string V)) (first | exact k3 | exact k4)
    (first
      | (with_reducible refine st_at 61 ?_
         refine st_copyB rfl (.tmp 58) (.tmp 60) 9 rfl g (1 + K.size + 4) V.size (508 - (1 + K.size)) T (.string V) V.size N V.data.toList V.size rfl rfl (HD.out.2.1).drew (lenOf_string V) (Nat.min_self _) (first_string V _) HV.out HF.out ?_
         intro w4 hG4 ha4 hs4
         have k4 : w4.cell? ⟨w.heap.size, 1, none⟩ = some (.string V) := (ha4.cell (p := ⟨w.heap.size, 1, none⟩) hz3 (by simpa using hne)).trans k3))
  go_wp2_with fail
  go_ret2
  have hf4 : (splice N (1 + K.size + 4) V.data.toList).length = 512 := by rw [splice_length (by rw [HV.out]; exact HF.out), HD.out.2.2.1]
  refine ⟨?_, ⟨_, hG4, hf4, ?_⟩, HD.out.1.trans ((Apart.refl [g] w3).drew.trans (ha4.mono (fun k _ h => h)))⟩
  · rfl
  · obtain ⟨_, _, _, hN, hM⟩ := HD.out
    subst hN
    subst hM
    rw [show 5 + K.size + V.size = 5 + K.size + V.size from rfl, read_list hL5 HT.out.1 HV.out hk]
    have e : (titleS K).size = K.size := by
      rw [← HT.out.1]
      rfl
    show _ = (UInt8.ofNat (titleS K).size :: titleL K.data.toList) ++ (be4 V.size ++ V.data.toList)
    rw [e]
    rfl
end Go.Proofs.YtkpcepdalegmmaaGreatDoor

/-! Properties: Buffer.property, Buffer.Bytes. -/
namespace Go.Proofs.YtkpcepdalegmmaaGreatDoor
open Go.RowKit

def noughtsN (n : Nat) : List UInt8 := List.replicate n 0
theorem made_u8z (n : Nat) : madeCells (Value.int .u8 0).cells n = (bv (noughtsN n)).toArray := by
  apply Array.ext
  · simp [madeCells, bv, noughtsN]
  · intro i h1 h2
    simp [madeCells, bv, noughtsN, Value.cells, Nat.mod_one]
theorem make512 (W : World) : (Instr.makeSlice 23 (.int .i64 512) (.int .i64 512)).run Tryz.prog W = .ok (.slice (some ⟨W.heap.size, 0, none⟩) 512 512) (W.alloc (.cells (bv (noughtsN 512)).toArray 5)) := by
  obtain ⟨i, hi, hz0, hz1, hz2⟩ := info_parts Tryz.info_u8
  have h := run_make (P := Tryz.prog) W 23 5 i _ Tryz.u_bytes hi hz0 .i64 .i64 512 512 (by omega) (Int.le_refl _) (by rw [hz2]; omega) (by omega)
  rw [hz1] at h
  rw [show (512 : Int).toNat * 1 = 512 from rfl, made_u8z] at h
  exact h

theorem make512' : ∃ Z : List UInt8, Z.length = 512 ∧ ∀ W : World, (Instr.makeSlice 23 (.int .i64 512) (.int .i64 512)).run Tryz.prog W = .ok (.slice (some ⟨W.heap.size, 0, none⟩) 512 512) (W.alloc (.cells (bv Z).toArray 5)) :=
  ⟨noughtsN 512, List.length_replicate .., make512⟩

theorem eof_eof_ (W : World) : (binOp .eql 31 (.iface 87 (.string ⟨#[69, 79, 70]⟩)) (.iface 87 (.string ⟨#[69, 79, 70]⟩))).run Tryz.prog W = .ok (.bool true) W := by kernel_rfl
theorem Bytes_ok (q m c : Nat) (A : Option Addr) (w : World) (hq : Blk w q 91 #[.slice A m c]) :
    Calls Tryz.prog 37 #[.pointer (some ⟨q, 0, none⟩)] w fun e w' => e = .returned (.slice A m c) ∧ w' = w := by
  have c0 := hq.cell 0
  simp only [List.getElem?_toArray, List.getElem?_cons_zero] at c0
  go_enter Tryz.func37, Tryz.ntmps37
  go_wp2_with fail
  go_ret
  exact ⟨rfl, rfl⟩
set_option maxRecDepth 100000 in
theorem property_ok (q base m c : Nat) (A : Option Addr) (l : List UInt8) (K V : ByteArray) (w : World) (hq : Blk w q 91 #[.slice A m c]) (ho : OB w base A m c l) (hb : base ≤ w.heap.size) (hm : m ≤ 70368744000000) (hk : K.size ≤ 100) (hv : V.size ≤ 300) :
    Calls Tryz.prog 36 #[.pointer (some ⟨q, 0, none⟩), .agg #[.string K, .string V]] w fun e w' => e = .returned .nilIface ∧ ∃ A' c' u v, OB v base A' (m + (5 + K.size + V.size)) c' (l ++ propL K V) ∧ Below w.heap.size w u ∧ u.grownBy v (A.map (·.block)) ∧ w' = v.setCell ⟨q, 0, none⟩ (.slice A' (m + (5 + K.size + V.size)) c') := by
  have c0 := hq.cell 0
  simp only [List.getElem?_toArray, List.getElem?_cons_zero] at c0
  obtain ⟨Z, hZ, mk⟩ := make512'
  go_enter Tryz.func36, Tryz.ntmps36
  go_wp2_with fail
  have hE := BB.mk (w.alloc (.cells #[.string K, .string V] 99)) 5 Z
  have hq1 := (hq.alloc (.cells #[.string K, .string V] 99)).alloc (.cells (bv Z).toArray 5)
  have ho1 := (ho.alloc (.cells #[.string K, .string V] 99)).alloc (.cells (bv Z).toArray 5)
  have hql := hq.lt
  have hoq : some q ≠ A.map (·.block) := by
    have := own_blk_ne ho hq (by decide)
    cases A with
    | none => simp
    | some ad =>
      simp [Value.ownBlock] at this ⊢
      exact fun e => this e.symm
  have hsA := fun ad (e : A = some ad) => World.ownsRow.lt ho ad.block (by rw [e]; rfl)
  have hz : ((w.alloc (.cells #[.string K, .string V] 99)).alloc (.cells (bv Z).toArray 5)).heap.size = w.heap.size + 2 := by simp
  have hbl : Below w.heap.size w ((w.alloc (.cells #[.string K, .string V] 99)).alloc (.cells (bv Z).toArray 5)) := ((Below.refl _ _).alloc (Nat.le_refl _) _).alloc (by simp) _
  rw [World.size_alloc] at hE
  generalize ((w.alloc (.cells #[.string K, .string V] 99)).alloc (.cells (bv Z).toArray 5)) = W at *
  refine (Read_ok (w.heap.size + 1) Z K V 5 W hE hZ hk hv).mono ?_
  rintro e w1 ⟨rfl, ⟨L', hL, hlen, htk⟩, hap⟩
  have hq2 := hap.blk hq1 (by simp; omega)
  have ho2 := hap.ob ho1 (fun ad e => by have := hsA ad e; simp; omega)
  have hbl2 : Below w.heap.size w w1 := hbl.trans (hap.below (by omega) (by simp))
  have c1 := hq2.cell 0
  simp only [List.getElem?_toArray, List.getElem?_cons_zero] at c1
  have HA := Lib.hid (⟨hq2, ho2, hbl2, hL, hlen, htk, hsA⟩ : _ ∧ _ ∧ _ ∧ _ ∧ _ ∧ _ ∧ _)
  clear hq2 ho2 hbl2 hL hlen htk hsA hq1 ho1 hz hbl hE hap mk c0 hq ho
  go_wp2_with fail
  have hcut : ∀ W : World, (Instr.slice 23 (.slice (some ⟨w.heap.size + 1, 0, none⟩) 512 512) none (some (.int .i64 (1 + (K.size : Int) + 4 + (V.size : Int)))) none).run Tryz.prog W = .ok (.slice (some ⟨w.heap.size + 1, 0, none⟩) (5 + K.size + V.size) 512) W := fun W => by
    have h := run_slice_hi (some ⟨w.heap.size + 1, 0, none⟩) 512 512 W (5 + K.size + V.size) (by omega)
    rw [show ((5 + K.size + V.size : Nat) : Int) = 1 + (K.size : Int) + 4 + (V.size : Int) by omega] at h
    exact h
  have hsrc : Src Tryz.prog 1 23 (.slice (some ⟨w.heap.size + 1, 0, none⟩) (5 + K.size + V.size) 512) (5 + K.size + V.size) (bv (propL K V)) w1.drew := by
    obtain ⟨_, _, _, hL, hlen, htk, _⟩ := HA.out
    have h := hL.drew.rb (o := 0) (n := 5 + K.size + V.size) (by omega)
    rw [List.drop_zero, htk] at h
    exact srcB h
  have hbz : base ≤ w1.heap.size := by have := HA.out.2.2.1.size; omega
  go_region_law (first
      | (with_reducible refine st_at 23 ?_
         refine st_appB rfl (.tmp 19) (.tmp 22) 23 rfl base A m c l rfl (HA.out.2.1).drew _ (5 + K.size + V.size) (propL K V) rfl hsrc (m + (5 + K.size + V.size)) rfl (by omega) hbz ?_
         intro A2 c2' w2 ho2 hg2 ha2
         have hq2 := HA.out.1.drew.grown hg2 hoq
         have c2 := hq2.cell 0
         have f2 := hq2.frozen 0
         simp only [List.getElem?_toArray, List.getElem?_cons_zero] at c2))
  rename_i aK
  refine aK _ _ ?_
  have en := eof_eof_
  have HZ := Lib.hid (⟨ho2, hg2⟩ : _ ∧ _)
  clear ho2 hg2 ha2 c1 c2 f2 hq2 hsrc hcut
  go_wp2_with fail
  go_ret
  exact ⟨rfl, A2, c2', w1.drew, w2, HZ.out.1, HA.out.2.2.1.drew, HZ.out.2, rfl⟩
end Go.Proofs.YtkpcepdalegmmaaGreatDoor
