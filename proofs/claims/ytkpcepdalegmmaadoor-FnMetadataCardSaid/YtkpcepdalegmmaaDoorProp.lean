/- Properties: (*Property).Write. -/
import Derived.Test.YtkpcepdalegmmaaDoorSpare
import Derived.Test.YtkpcepdalegmmaaDoorTitle
import Derived.Test.YtkpcepdalegmmaaDoorKv3
import Derived.Test.YtkpcepdalegmmaaDoorBe
import Derived.Test.YtkpcepdalegmmaaDoorAsc
import Derived.Outline
namespace Go.Proofs.YtkpcepdalegmmaaDoor
open Go.RowKit

def titleS (s : ByteArray) : ByteArray := ⟨(titleL s.data.toList).toArray⟩
theorem run_slice_mid {g i m cp lo hi n : Nat} (w : World) (h1 : lo ≤ hi) (h2 : hi ≤ cp) (h3 : lo < cp) (hn : hi - lo = n) (a b : Int) (ha : a = (lo : Int)) (hb : b = (hi : Int)) :
    (Instr.slice 30 (.slice (some ⟨g, i, none⟩) m cp) (some (.int .i64 a)) (some (.int .i64 b)) none).run Tryd.prog w = .ok (.slice (some ⟨g, i + lo, none⟩) n (cp - lo)) w := by
  subst ha
  subst hb
  subst hn
  have h := run_slice_lh (some ⟨g, i, none⟩) m cp w lo hi h1 h2
  have e : cutA (some ⟨g, i, none⟩) cp lo = some ⟨g, i + lo, none⟩ := by
    unfold cutA
    rw [if_neg (by omega)]
    simp [Addr.add_lit]
  rw [e] at h
  exact h
theorem run_slice_mid' {A : Option Addr} {m cp lo hi n : Nat} (w : World) (h1 : lo ≤ hi) (h2 : hi ≤ cp) (hn : hi - lo = n) (a b : Int) (ha : a = (lo : Int)) (hb : b = (hi : Int)) :
    (Instr.slice 30 (.slice A m cp) (some (.int .i64 a)) (some (.int .i64 b)) none).run Tryd.prog w = .ok (.slice (cutA A cp lo) n (cp - lo)) w := by
  subst ha
  subst hb
  subst hn
  exact run_slice_lh A m cp w lo hi h1 h2
theorem take_mid {l : List UInt8} {m lo n : Nat} (h : lo + n ≤ m) : ((l.take m).drop lo).take n = (l.drop lo).take n := by
  rw [List.drop_take, List.take_take, Nat.min_eq_left (by omega)]
theorem getD_drop {L E : List UInt8} {i : Nat} (h : L.drop i = E) (j : Nat) : L.getD (i + j) 0 = E.getD j 0 := by
  rw [← h, List.getD_eq_getElem?_getD, List.getD_eq_getElem?_getD, List.getElem?_drop]
theorem be4_sum {v : Nat} (h : v ≤ 300) : (UInt8.ofNat (v / 16777216)).toNat * 16777216 + (UInt8.ofNat (v / 65536)).toNat * 65536 + (UInt8.ofNat (v / 256)).toNat * 256 + (UInt8.ofNat v).toNat = v := by
  have e : ∀ y : Nat, (UInt8.ofNat y).toNat = y % 256 := fun y => by simp
  rw [e, e, e, e]
  omega
/-- The parts of a property's bytes. -/
theorem enc_parts {L rest : List UInt8} {i : Nat} {kv : Kv} (h : L.drop i = encKV kv ++ rest) :
    L.getD i 0 = UInt8.ofNat kv.key.size ∧ (L.drop (i + 1)).take kv.key.size = kv.key.data.toList ∧
      (L.getD (i + (1 + kv.key.size)) 0 = UInt8.ofNat (kv.val.size / 16777216) ∧ L.getD (i + (1 + kv.key.size) + 1) 0 = UInt8.ofNat (kv.val.size / 65536) ∧ L.getD (i + (1 + kv.key.size) + 2) 0 = UInt8.ofNat (kv.val.size / 256) ∧ L.getD (i + (1 + kv.key.size) + 3) 0 = UInt8.ofNat kv.val.size) ∧
      (L.drop (i + (1 + kv.key.size + 4))).take kv.val.size = kv.val.data.toList := by
  have hk : kv.key.data.toList.length = kv.key.size := by simp
  have hv : kv.val.data.toList.length = kv.val.size := by simp
  have hE : encKV kv ++ rest = UInt8.ofNat kv.key.size :: (kv.key.data.toList ++ (be4 kv.val.size ++ (kv.val.data.toList ++ rest))) := by simp [encKV]
  rw [hE] at h
  have hd : ∀ j, L.drop (i + j) = (UInt8.ofNat kv.key.size :: (kv.key.data.toList ++ (be4 kv.val.size ++ (kv.val.data.toList ++ rest)))).drop j := fun j => by rw [← h, List.drop_drop]
  have hd1 : L.drop (i + (1 + kv.key.size)) = be4 kv.val.size ++ (kv.val.data.toList ++ rest) := by
    rw [hd, Nat.add_comm 1, List.drop_succ_cons, ← hk, List.drop_left]
  refine ⟨?_, ?_, ?_, ?_⟩
  · have := getD_drop h 0
    simpa using this
  · rw [hd 1, List.drop_succ_cons, List.drop_zero, ← hk, List.take_left]
  · refine ⟨?_, ?_, ?_, ?_⟩
    · have := getD_drop hd1 0
      simpa [be4] using this
    · have := getD_drop hd1 1
      simpa [be4] using this
    · have := getD_drop hd1 2
      simpa [be4] using this
    · have := getD_drop hd1 3
      simpa [be4] using this
  · rw [← Nat.add_assoc, ← List.drop_drop, hd1, show (4 : Nat) = (be4 kv.val.size).length from rfl, List.drop_left, ← hv, List.take_left]

set_option maxRecDepth 100000 in
set_option maxHeartbeats 8000000 in
theorem Write_ok (q g i m cp : Nat) (L rest : List UInt8) (k0 v0 : Value) (kv : Kv) (w : World) (hq : Blk w q 59 #[k0, v0]) (hg : BB w g 5 L) (hL : L.length = i + cp) (hm : (encKV kv).length ≤ m) (hmc : m ≤ cp) (hm2 : m ≤ 2147483647)
    (hD : L.drop i = encKV kv ++ rest) (hk1 : 1 ≤ kv.key.size) (hk : kv.key.size ≤ 100) (hv : kv.val.size ≤ 300) :
    Calls Tryd.prog 31 #[.pointer (some ⟨q, 0, none⟩), .slice (some ⟨g, i, none⟩) m cp] w fun e w' => e = .returned (.tuple #[.int .i64 (encKV kv).length, .nilIface]) ∧ Blk w' q 59 #[.string (titleS kv.key), .string kv.val] ∧ Apart [q] w w' := by
  have hqg : q ≠ g := hq.ne_ hg (by decide)
  obtain ⟨p1, p2, ⟨b0, b1, b2, b3⟩, p3⟩ := enc_parts hD
  have hlen := encKV_length kv
  obtain ⟨key, val⟩ := kv
  simp only at p1 p2 b0 b1 b2 b3 p3 hk1 hk hv hlen ⊢
  have c0 := hg.cell (i := i) (by omega)
  rw [p1] at c0
  have ek : ((UInt8.ofNat key.size).toNat : Int) = (key.size : Int) := by
    have : (UInt8.ofNat key.size).toNat = key.size := by simp; omega
    rw [this]
  rw [ek] at c0
  have s1 := fun W => run_slice_mid (g := g) (i := i) (m := m) (cp := cp) (lo := 1) (hi := 1 + key.size) (n := key.size) W (by omega) (by omega) (by omega) (by omega) 1 (1 + (key.size : Int)) rfl (by omega)
  have s2 := fun W => run_slice_mid (g := g) (i := i) (m := m) (cp := cp) (lo := 1 + key.size) (hi := 1 + key.size + 4) (n := 4) W (by omega) (by omega) (by omega) (by omega) (1 + (key.size : Int)) (1 + (key.size : Int) + 4) (by omega) (by omega)
  have s3 := fun W => run_slice_mid' (A := some ⟨g, i, none⟩) (m := m) (cp := cp) (lo := 1 + key.size + 4) (hi := 1 + key.size + 4 + val.size) (n := val.size) W (by omega) (by omega) (by omega) (1 + (key.size : Int) + 4) (1 + (key.size : Int) + 4 + (val.size : Int)) (by omega) (by omega)
  have r3 := fun (W : World) (h : BB W g 5 L) => run_strB (c := cp - (1 + key.size + 4)) ((h.rb (o := i) (n := m) (by omega)).cutA_ (lo := 1 + key.size + 4) (hi := 1 + key.size + 4 + val.size) (by omega) (by omega) hmc)
  rw [Nat.add_sub_cancel_left, take_mid (by omega), List.drop_drop, p3] at r3
  have r1 := run_strB (c := cp - 1) (hg.rb (o := i + 1) (n := key.size) (by omega))
  rw [p2] at r1
  have hq0 := hq.frozen 0
  have hq1 := hq.cell 0
  have R3 := Lib.hid r3
  have HX := Lib.hid (⟨b0, b1, b2, b3, p3⟩ : _ ∧ _ ∧ _ ∧ _ ∧ _)
  have HLn := Lib.hid hlen
  have HL := Lib.hid hL
  have hml : key.size + val.size + 5 ≤ m := by omega
  clear r3 b0 b1 b2 b3 p1 p2 p3 hD hlen hm hL
  go_enter Tryd.func31, Tryd.ntmps31
  go_wp2_with fail
  refine (toTitle ⟨key.data.toList.toArray⟩ _ (by show key.data.toList.toArray.size ≤ _; simp; omega)).mono ?_
  rintro e w1 ⟨rfl, hb1⟩
  have hQ1 := hq.after hb1 (Nat.le_refl _)
  have hG1 := hg.after hb1 (Nat.le_refl _)
  have d0 := hQ1.cell 0
  have f0 := hQ1.frozen 0
  simp only [List.getElem?_toArray, List.getElem?_cons_zero] at d0
  have et : (⟨(titleL (⟨key.data.toList.toArray⟩ : ByteArray).data.toList).toArray⟩ : ByteArray) = titleS key := rfl
  rw [et]
  clear et r1 c0 hq0 hq1
  go_wp2_with fail
  have hQ2 := hQ1.set_ 0 (.string (titleS key))
  have hG2 := hG1.farN (b := q) (o := 0) (Ne.symm hqg) (.string (titleS key))
  have hA2 : Apart [q] w (w1.setCell ⟨q, 0, none⟩ (.string (titleS key))) := (Apart.of_below hb1).setN (.inl (by simp)) _
  obtain ⟨b0, b1, b2, b3, _⟩ := HX.out
  refine (beUint32 g (i + (1 + key.size)) 4 (cp - (1 + key.size)) 5 L _ hG2 (by decide) (by decide) (by rw [HL.out]; omega) _ _ _ _ b0 b1 b2 b3).mono ?_
  clear b0 b1 b2 b3
  rintro e w3 ⟨rfl, nk, rfl⟩
  rw [be4_sum hv]
  have hQ3 := hQ2.drewN nk
  have hA3 := hA2.drewN nk
  have r3 := R3.out _ (hG2.drewN nk)
  clear hQ2 hG2 hA2 d0 f0 hQ1 hG1
  generalize (w1.setCell ⟨q, 0, none⟩ (.string (titleS key))).drewN nk = W3 at *
  have f1 := hQ3.frozen 1
  have d1 := hQ3.cell 1
  go_wp2_with fail
  go_ret2
  exact ⟨congrArg (fun v => Ending.returned (.tuple #[.int .i64 v, .nilIface])) (by rw [HLn.out]; omega), hQ3.set_ 1 _, hA3.setN (.inl (by simp)) _⟩
end Go.Proofs.YtkpcepdalegmmaaDoor
