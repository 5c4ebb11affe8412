/- Properties: Buffer.property, Buffer.Bytes. -/
import Derived.Test.YtkpcepdalegmmaaDoorRdp
import Derived.Test.YtkpcepdalegmmaaDoorBytes3
import Derived.Test.YtkpcepdalegmmaaDoorSlice
import Derived.Deep.RegionLaw
namespace Go.Proofs.YtkpcepdalegmmaaDoor
open Go.RowKit

def noughtsN (n : Nat) : List UInt8 := List.replicate n 0
theorem made_u8z (n : Nat) : madeCells (Value.int .u8 0).cells n = (bv (noughtsN n)).toArray := by
  apply Array.ext
  · simp [madeCells, bv, noughtsN]
  · intro i h1 h2
    simp [madeCells, bv, noughtsN, Value.cells, Nat.mod_one]
theorem make512 (W : World) : (Instr.makeSlice 30 (.int .i64 512) (.int .i64 512)).run Tryd.prog W = .ok (.slice (some ⟨W.heap.size, 0, none⟩) 512 512) (W.alloc (.cells (bv (noughtsN 512)).toArray 5)) := by
  obtain ⟨i, hi, hz0, hz1, hz2⟩ := info_parts Tryd.info_u8
  have h := run_make (P := Tryd.prog) W 30 5 i _ Tryd.u_bytes hi hz0 .i64 .i64 512 512 (by omega) (Int.le_refl _) (by rw [hz2]; omega) (by omega)
  rw [hz1] at h
  rw [show (512 : Int).toNat * 1 = 512 from rfl, made_u8z] at h
  exact h

theorem make512' : ∃ Z : List UInt8, Z.length = 512 ∧ ∀ W : World, (Instr.makeSlice 30 (.int .i64 512) (.int .i64 512)).run Tryd.prog W = .ok (.slice (some ⟨W.heap.size, 0, none⟩) 512 512) (W.alloc (.cells (bv Z).toArray 5)) :=
  ⟨noughtsN 512, List.length_replicate .., make512⟩

theorem eof_eof_ (W : World) : (binOp .eql 47 (.iface 70 (.string ⟨#[69, 79, 70]⟩)) (.iface 70 (.string ⟨#[69, 79, 70]⟩))).run Tryd.prog W = .ok (.bool true) W := by kernel_rfl
theorem Bytes_ok (q m c : Nat) (A : Option Addr) (w : World) (hq : Blk w q 66 #[.slice A m c]) :
    Calls Tryd.prog 39 #[.pointer (some ⟨q, 0, none⟩)] w fun e w' => e = .returned (.slice A m c) ∧ w' = w := by
  have c0 := hq.cell 0
  simp only [List.getElem?_toArray, List.getElem?_cons_zero] at c0
  go_enter Tryd.func39, Tryd.ntmps39
  go_wp2_with fail
  go_ret
  exact ⟨rfl, rfl⟩
set_option maxRecDepth 100000 in
theorem property_ok (q base m c : Nat) (A : Option Addr) (l : List UInt8) (K V : ByteArray) (w : World) (hq : Blk w q 66 #[.slice A m c]) (ho : OB w base A m c l) (hb : base ≤ w.heap.size) (hm : m ≤ 70368744000000) (hk : K.size ≤ 100) (hv : V.size ≤ 300) :
    Calls Tryd.prog 38 #[.pointer (some ⟨q, 0, none⟩), .agg #[.string K, .string V]] w fun e w' => e = .returned .nilIface ∧ ∃ A' c' u v, OB v base A' (m + (5 + K.size + V.size)) c' (l ++ propL K V) ∧ Below w.heap.size w u ∧ u.grownBy v (A.map (·.block)) ∧ w' = v.setCell ⟨q, 0, none⟩ (.slice A' (m + (5 + K.size + V.size)) c') := by
  have c0 := hq.cell 0
  simp only [List.getElem?_toArray, List.getElem?_cons_zero] at c0
  obtain ⟨Z, hZ, mk⟩ := make512'
  go_enter Tryd.func38, Tryd.ntmps38
  go_wp2_with fail
  have hE := BB.mk (w.alloc (.cells #[.string K, .string V] 59)) 5 Z
  have hq1 := (hq.alloc (.cells #[.string K, .string V] 59)).alloc (.cells (bv Z).toArray 5)
  have ho1 := (ho.alloc (.cells #[.string K, .string V] 59)).alloc (.cells (bv Z).toArray 5)
  have hql := hq.lt
  have hoq : some q ≠ A.map (·.block) := by
    have := own_blk_ne ho hq (by decide)
    cases A with
    | none => simp
    | some ad =>
      simp [Value.ownBlock] at this ⊢
      exact fun e => this e.symm
  have hsA := fun ad (e : A = some ad) => World.ownsRow.lt ho ad.block (by rw [e]; rfl)
  have hz : ((w.alloc (.cells #[.string K, .string V] 59)).alloc (.cells (bv Z).toArray 5)).heap.size = w.heap.size + 2 := by simp
  have hbl : Below w.heap.size w ((w.alloc (.cells #[.string K, .string V] 59)).alloc (.cells (bv Z).toArray 5)) := ((Below.refl _ _).alloc (Nat.le_refl _) _).alloc (by simp) _
  rw [World.size_alloc] at hE
  generalize ((w.alloc (.cells #[.string K, .string V] 59)).alloc (.cells (bv Z).toArray 5)) = W at *
  refine (Read_ok (w.heap.size + 1) Z K V 5 W hE hZ hk hv).mono ?_
  rintro e w1 ⟨rfl, ⟨L', hL, hlen, htk⟩, hap⟩
  have hq2 := hap.blk hq1 (by simp; omega)
  have ho2 := hap.ob ho1 (fun ad e => by have := hsA ad e; simp; omega)
  have hbl2 : Below w.heap.size w w1 := hbl.trans (hap.below (by omega) (by simp))
  have c1 := hq2.cell 0
  simp only [List.getElem?_toArray, List.getElem?_cons_zero] at c1
  have HA := Lib.hid (⟨hq2, ho2, hbl2, hL, hlen, htk, hsA⟩ : _ ∧ _ ∧ _ ∧ _ ∧ _ ∧ _ ∧ _)
  clear hq2 ho2 hbl2 hL hlen htk hsA hq1 ho1 hz hbl hE hap mk c0 hq ho
  go_wp2_with fail
  have hcut : ∀ W : World, (Instr.slice 30 (.slice (some ⟨w.heap.size + 1, 0, none⟩) 512 512) none (some (.int .i64 (1 + (K.size : Int) + 4 + (V.size : Int)))) none).run Tryd.prog W = .ok (.slice (some ⟨w.heap.size + 1, 0, none⟩) (5 + K.size + V.size) 512) W := fun W => by
    have h := run_slice_hi (some ⟨w.heap.size + 1, 0, none⟩) 512 512 W (5 + K.size + V.size) (by omega)
    rw [show ((5 + K.size + V.size : Nat) : Int) = 1 + (K.size : Int) + 4 + (V.size : Int) by omega] at h
    exact h
  have hsrc : Src Tryd.prog 1 30 (.slice (some ⟨w.heap.size + 1, 0, none⟩) (5 + K.size + V.size) 512) (5 + K.size + V.size) (bv (propL K V)) w1.drew := by
    obtain ⟨_, _, _, hL, hlen, htk, _⟩ := HA.out
    have h := hL.drew.rb (o := 0) (n := 5 + K.size + V.size) (by omega)
    rw [List.drop_zero, htk] at h
    exact srcB h
  have hbz : base ≤ w1.heap.size := by have := HA.out.2.2.1.size; omega
  go_region_law (first
      | (with_reducible refine st_at 23 ?_
         refine st_appB rfl (.tmp 19) (.tmp 22) 30 rfl base A m c l rfl (HA.out.2.1).drew _ (5 + K.size + V.size) (propL K V) rfl hsrc (m + (5 + K.size + V.size)) rfl (by omega) hbz ?_
         intro A2 c2' w2 ho2 hg2 ha2
         have hq2 := HA.out.1.drew.grown hg2 hoq
         have c2 := hq2.cell 0
         have f2 := hq2.frozen 0
         simp only [List.getElem?_toArray, List.getElem?_cons_zero] at c2))
  rename_i aK
  refine aK _ _ ?_
  have en := eof_eof_
  have HZ := Lib.hid (⟨ho2, hg2⟩ : _ ∧ _)
  clear ho2 hg2 ha2 c1 c2 f2 hq2 hsrc hcut
  go_wp2_with fail
  go_ret
  exact ⟨rfl, A2, c2', w1.drew, w2, HZ.out.1, HA.out.2.2.1.drew, HZ.out.2, rfl⟩
end Go.Proofs.YtkpcepdalegmmaaDoor
