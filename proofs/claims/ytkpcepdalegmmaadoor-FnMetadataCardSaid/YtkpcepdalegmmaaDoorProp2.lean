/- Properties: (*Property).Write of bytes that are cut. -/
import Derived.Test.YtkpcepdalegmmaaDoorProp
import Derived.Test.YtkpcepdalegmmaaDoorPan
namespace Go.Proofs.YtkpcepdalegmmaaDoor
open Go.RowKit

/-- What Write comes to at bytes that are cut: an error, or a panic. -/
def WFail (w : World) (q : Nat) (e : Ending) (w' : World) : Prop :=
  ((∃ (n : Int) (s : ByteArray), e = .returned (.tuple #[.int .i64 n, .iface 70 (.string s)])) ∨ (∃ u pv, e = .panicked [{ v := .iface u pv, recovered := false }])) ∧ Apart [q] w w'

theorem getD_take {l : List UInt8} {m j : Nat} (h : j < m) : (l.take m).getD j 0 = l.getD j 0 := by
  rw [List.getD_eq_getElem?_getD, List.getD_eq_getElem?_getD, List.getElem?_take, if_pos h]
theorem cut_parts {L : List UInt8} {i m : Nat} {kv : Kv} (h0 : 0 < m) (h : (L.drop i).take m = (encKV kv).take m) :
    L.getD i 0 = UInt8.ofNat kv.key.size ∧ (1 + kv.key.size + 4 ≤ m → L.getD (i + (1 + kv.key.size)) 0 = UInt8.ofNat (kv.val.size / 16777216) ∧ L.getD (i + (1 + kv.key.size) + 1) 0 = UInt8.ofNat (kv.val.size / 65536) ∧ L.getD (i + (1 + kv.key.size) + 2) 0 = UInt8.ofNat (kv.val.size / 256) ∧ L.getD (i + (1 + kv.key.size) + 3) 0 = UInt8.ofNat kv.val.size) := by
  have each : ∀ j, j < m → L.getD (i + j) 0 = (encKV kv).getD j 0 := fun j hj => by
    have h1 : ((L.drop i).take m).getD j 0 = ((encKV kv).take m).getD j 0 := by rw [h]
    rw [getD_take hj, getD_take hj] at h1
    rw [← h1, List.getD_eq_getElem?_getD, List.getD_eq_getElem?_getD, List.getElem?_drop]
  have hk : kv.key.data.toList.length = kv.key.size := by simp
  have hd1 : (encKV kv).drop (1 + kv.key.size) = be4 kv.val.size ++ kv.val.data.toList := by
    have hE : encKV kv = UInt8.ofNat kv.key.size :: (kv.key.data.toList ++ (be4 kv.val.size ++ kv.val.data.toList)) := by simp [encKV]
    rw [hE, Nat.add_comm 1, List.drop_succ_cons, ← hk, List.drop_left]
  refine ⟨?_, fun h5 => ?_⟩
  · have := each 0 h0
    simpa [encKV] using this
  · have at_ : ∀ j, j < 4 → L.getD (i + (1 + kv.key.size) + j) 0 = (be4 kv.val.size ++ kv.val.data.toList).getD j 0 := fun j hj => by
      rw [Nat.add_assoc, each _ (by omega), getD_drop hd1]
    refine ⟨?_, ?_, ?_, ?_⟩
    · have := at_ 0 (by decide)
      simpa [be4] using this
    · have := at_ 1 (by decide)
      simpa [be4] using this
    · have := at_ 2 (by decide)
      simpa [be4] using this
    · have := at_ 3 (by decide)
      simpa [be4] using this

set_option maxRecDepth 100000 in
set_option maxHeartbeats 8000000 in
theorem Write_cut (q g i m cp : Nat) (L : List UInt8) (k0 v0 : Value) (kv : Kv) (w : World) (hq : Blk w q 59 #[k0, v0]) (hg : BB w g 5 L) (hL : L.length = i + cp) (hmc : m ≤ cp) (hm2 : m ≤ 2147483647) (h0 : 0 < m) (hcut : m < (encKV kv).length)
    (hD : (L.drop i).take m = (encKV kv).take m) (hk1 : 1 ≤ kv.key.size) (hk : kv.key.size ≤ 100) (hv : kv.val.size ≤ 300) :
    Calls Tryd.prog 31 #[.pointer (some ⟨q, 0, none⟩), .slice (some ⟨g, i, none⟩) m cp] w (WFail w q) := by
  have hqg : q ≠ g := hq.ne_ hg (by decide)
  obtain ⟨p1, p2⟩ := cut_parts h0 hD
  have hlen := encKV_length kv
  obtain ⟨key, val⟩ := kv
  simp only at p1 p2 hk1 hk hv hlen hcut
  have c0 := hg.cell (i := i) (by omega)
  rw [p1] at c0
  have ek : ((UInt8.ofNat key.size).toNat : Int) = (key.size : Int) := by
    have : (UInt8.ofNat key.size).toNat = key.size := by simp; omega
    rw [this]
  rw [ek] at c0
  have HL := Lib.hid hL
  have HP := Lib.hid p2
  have hcut2 : m < key.size + val.size + 5 := by omega
  clear p1 p2 hD hlen hcut ek
  by_cases ha : m < key.size
  · clear hL
    go_enter Tryd.func31, Tryd.ntmps31
    go_wp2_with fail
    go_ret2
    exact ⟨.inl ⟨_, _, rfl⟩, Apart.refl _ _⟩
  · by_cases hb : cp < 1 + key.size
    · obtain ⟨pv, nd, hrun⟩ := run_slice_high_panics (P := Tryd.prog) (w := w) 30 5 Tryd.u_bytes (some ⟨g, i, none⟩) m cp (some (.int .i64 1)) .i64 (1 + (key.size : Int)) (.inr (by omega))
      clear hL
      go_enter Tryd.func31, Tryd.ntmps31
      go_wp2_with fail
      exact ⟨rfl, .inr ⟨_, _, rfl⟩, (Apart.refl _ _).drewN _⟩
    · have s1 := fun W => run_slice_mid (g := g) (i := i) (m := m) (cp := cp) (lo := 1) (hi := 1 + key.size) (n := key.size) W (by omega) (by omega) (by omega) (by omega) 1 (1 + (key.size : Int)) rfl (by omega)
      have r1 := run_strB (c := cp - 1) (hg.rb (o := i + 1) (n := key.size) (by omega))
      obtain ⟨str, hstr⟩ : ∃ str : ByteArray, str = ⟨((L.drop (i + 1)).take key.size).toArray⟩ := ⟨_, rfl⟩
      have hss : str.size ≤ 100 := by rw [hstr]; show (List.toArray _).size ≤ 100; simp; omega
      rw [← hstr] at r1
      clear hstr hL
      go_enter Tryd.func31, Tryd.ntmps31
      have hq0 := hq.frozen 0
      have hq1 := hq.cell 0
      simp only [List.getElem?_toArray, List.getElem?_cons_zero] at hq1
      go_wp2_with fail
      refine (toTitle str _ (by omega)).mono ?_
      rintro e w1 ⟨rfl, hb1⟩
      have hQ1 := hq.after hb1 (Nat.le_refl _)
      have hG1 := hg.after hb1 (Nat.le_refl _)
      have d0 := hQ1.cell 0
      have f0 := hQ1.frozen 0
      simp only [List.getElem?_toArray, List.getElem?_cons_zero] at d0
      have hQ2 := hQ1.set_ 0 (.string ⟨(titleL str.data.toList).toArray⟩)
      have hG2 := hG1.farN (b := q) (o := 0) (Ne.symm hqg) (.string ⟨(titleL str.data.toList).toArray⟩)
      have hA2 : Apart [q] w (w1.setCell ⟨q, 0, none⟩ (.string ⟨(titleL str.data.toList).toArray⟩)) := (Apart.of_below hb1).setN (.inl (by simp)) _
      have HW := Lib.hid (⟨hQ2, hG2, hA2⟩ : _ ∧ _ ∧ _)
      clear hQ2 hG2 hA2 r1 c0 hq0 hq1 hQ1 hG1 hb1
      by_cases hc : cp < 1 + key.size + 4
      · obtain ⟨pv, nd, hrun⟩ := run_slice_high_panics (P := Tryd.prog) (w := w1.setCell ⟨q, 0, none⟩ (.string ⟨(titleL str.data.toList).toArray⟩)) 30 5 Tryd.u_bytes (some ⟨g, i, none⟩) m cp (some (.int .i64 (1 + (key.size : Int)))) .i64 (1 + (key.size : Int) + 4) (.inr (by omega))
        go_wp2_with fail
        exact ⟨rfl, .inr ⟨_, _, rfl⟩, HW.out.2.2.drewN _⟩
      · have s2 := fun W => run_slice_mid (g := g) (i := i) (m := m) (cp := cp) (lo := 1 + key.size) (hi := 1 + key.size + 4) (n := 4) W (by omega) (by omega) (by omega) (by omega) (1 + (key.size : Int)) (1 + (key.size : Int) + 4) (by omega) (by omega)
        go_wp2_with fail
        have hG2 := HW.out.2.1
        have hA2 := HW.out.2.2
        generalize w1.setCell ⟨q, 0, none⟩ (.string ⟨(titleL str.data.toList).toArray⟩) = W2 at *
        refine (beUint32 g (i + (1 + key.size)) 4 (cp - (1 + key.size)) 5 L _ hG2 (by decide) (by decide) (by rw [HL.out]; omega) _ _ _ _ rfl rfl rfl rfl).mono ?_
        rintro e w3 ⟨rfl, nk, rfl⟩
        have hvv : m < 1 + key.size + 4 + ((L.getD (i + (1 + key.size)) 0).toNat * 16777216 + (L.getD (i + (1 + key.size) + 1) 0).toNat * 65536 + (L.getD (i + (1 + key.size) + 2) 0).toNat * 256 + (L.getD (i + (1 + key.size) + 3) 0).toNat) := by
          by_cases h5 : 1 + key.size + 4 ≤ m
          · obtain ⟨b0, b1, b2, b3⟩ := HP.out h5
            rw [b0, b1, b2, b3, be4_sum hv]
            omega
          · omega
        have hbd : (L.getD (i + (1 + key.size)) 0).toNat * 16777216 + (L.getD (i + (1 + key.size) + 1) 0).toNat * 65536 + (L.getD (i + (1 + key.size) + 2) 0).toNat * 256 + (L.getD (i + (1 + key.size) + 3) 0).toNat < 4294967296 := by
          have l0 := (L.getD (i + (1 + key.size)) 0).toNat_lt
          have l1 := (L.getD (i + (1 + key.size) + 1) 0).toNat_lt
          have l2 := (L.getD (i + (1 + key.size) + 2) 0).toNat_lt
          have l3 := (L.getD (i + (1 + key.size) + 3) 0).toNat_lt
          omega
        generalize (L.getD (i + (1 + key.size)) 0).toNat * 16777216 + (L.getD (i + (1 + key.size) + 1) 0).toNat * 65536 + (L.getD (i + (1 + key.size) + 2) 0).toNat * 256 + (L.getD (i + (1 + key.size) + 3) 0).toNat = v at *
        clear s1 s2 HW d0 f0
        go_wp2_with fail
        go_ret2
        exact ⟨.inl ⟨_, _, rfl⟩, hA2.drewN _⟩
end Go.Proofs.YtkpcepdalegmmaaDoor
