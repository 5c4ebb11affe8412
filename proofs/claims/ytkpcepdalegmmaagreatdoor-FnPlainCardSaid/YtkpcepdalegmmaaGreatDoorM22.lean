/- Parts of a proof, laid behind one another: Properties: (*Property).Write of bytes that are cut. Properties: (*Metadata).UnmarshalZMTP. -/
import Derived.Test.YtkpcepdalegmmaaGreatDoorM12
import Derived.Test.YtkpcepdalegmmaaGreatDoorM21
import Derived.Maps.Own
import Derived.Maps.Views
import Derived.Deep.RegionHeld3
/-! Properties: (*Property).Write of bytes that are cut. -/
namespace Go.Proofs.YtkpcepdalegmmaaGreatDoor
open Go.RowKit

/-- What Write comes to at bytes that are cut: an error, or a panic. -/
def WFail (w : World) (q : Nat) (e : Ending) (w' : World) : Prop :=
  ((∃ (n : Int) (s : ByteArray), e = .returned (.tuple #[.int .i64 n, .iface 87 (.string s)])) ∨ (∃ u pv, e = .panicked [{ v := .iface u pv, recovered := false }])) ∧ Apart [q] w w'

theorem getD_take {l : List UInt8} {m j : Nat} (h : j < m) : (l.take m).getD j 0 = l.getD j 0 := by
  rw [List.getD_eq_getElem?_getD, List.getD_eq_getElem?_getD, List.getElem?_take, if_pos h]
theorem cut_parts {L : List UInt8} {i m : Nat} {kv : Kv} (h0 : 0 < m) (h : (L.drop i).take m = (encKV kv).take m) :
    L.getD i 0 = UInt8.ofNat kv.key.size ∧ (1 + kv.key.size + 4 ≤ m → L.getD (i + (1 + kv.key.size)) 0 = UInt8.ofNat (kv.val.size / 16777216) ∧ L.getD (i + (1 + kv.key.size) + 1) 0 = UInt8.ofNat (kv.val.size / 65536) ∧ L.getD (i + (1 + kv.key.size) + 2) 0 = UInt8.ofNat (kv.val.size / 256) ∧ L.getD (i + (1 + kv.key.size) + 3) 0 = UInt8.ofNat kv.val.size) := by
  have each : ∀ j, j < m → L.getD (i + j) 0 = (encKV kv).getD j 0 := fun j hj => by
    have h1 : ((L.drop i).take m).getD j 0 = ((encKV kv).take m).getD j 0 := by rw [h]
    rw [getD_take hj, getD_take hj] at h1
    rw [← h1, List.getD_eq_getElem?_getD, List.getD_eq_getElem?_getD, List.getElem?_drop]
  have hk : kv.key.data.toList.length = kv.key.size := by simp
  have hd1 : (encKV kv).drop (1 + kv.key.size) = be4 kv.val.size ++ kv.val.data.toList := by
    have hE : encKV kv = UInt8.ofNat kv.key.size :: (kv.key.data.toList ++ (be4 kv.val.size ++ kv.val.data.toList)) := by simp [encKV]
    rw [hE, Nat.add_comm 1, List.drop_succ_cons, ← hk, List.drop_left]
  refine ⟨?_, fun h5 => ?_⟩
  · have := each 0 h0
    simpa [encKV] using this
  · have at_ : ∀ j, j < 4 → L.getD (i + (1 + kv.key.size) + j) 0 = (be4 kv.val.size ++ kv.val.data.toList).getD j 0 := fun j hj => by
      rw [Nat.add_assoc, each _ (by omega), getD_drop hd1]
    refine ⟨?_, ?_, ?_, ?_⟩
    · have := at_ 0 (by decide)
      simpa [be4] using this
    · have := at_ 1 (by decide)
      simpa [be4] using this
    · have := at_ 2 (by decide)
      simpa [be4] using this
    · have := at_ 3 (by decide)
      simpa [be4] using this

set_option maxRecDepth 100000 in
set_option maxHeartbeats 8000000 in
theorem Write_cut (q g i m cp : Nat) (L : List UInt8) (k0 v0 : Value) (kv : Kv) (w : World) (hq : Blk w q 99 #[k0, v0]) (hg : BB w g 5 L) (hL : L.length = i + cp) (hmc : m ≤ cp) (hm2 : m ≤ 2147483647) (h0 : 0 < m) (hcut : m < (encKV kv).length)
    (hD : (L.drop i).take m = (encKV kv).take m) (hk1 : 1 ≤ kv.key.size) (hk : kv.key.size ≤ 100) (hv : kv.val.size ≤ 300) :
    Calls Tryz.prog 137 #[.pointer (some ⟨q, 0, none⟩), .slice (some ⟨g, i, none⟩) m cp] w (WFail w q) := by
  have hqg : q ≠ g := hq.ne_ hg (by decide)
  obtain ⟨p1, p2⟩ := cut_parts h0 hD
  have hlen := encKV_length kv
  obtain ⟨key, val⟩ := kv
  simp only at p1 p2 hk1 hk hv hlen hcut
  have c0 := hg.cell (i := i) (by omega)
  rw [p1] at c0
  have ek : ((UInt8.ofNat key.size).toNat : Int) = (key.size : Int) := by
    have : (UInt8.ofNat key.size).toNat = key.size := by simp; omega
    rw [this]
  rw [ek] at c0
  have HL := Lib.hid hL
  have HP := Lib.hid p2
  have hcut2 : m < key.size + val.size + 5 := by omega
  clear p1 p2 hD hlen hcut ek
  by_cases ha : m < key.size
  · clear hL
    go_enter Tryz.func137, Tryz.ntmps137
    go_wp2_with fail
    go_ret2
    exact ⟨.inl ⟨_, _, rfl⟩, Apart.refl _ _⟩
  · by_cases hb : cp < 1 + key.size
    · obtain ⟨pv, nd, hrun⟩ := run_slice_high_panics (P := Tryz.prog) (w := w) 23 5 Tryz.u_bytes (some ⟨g, i, none⟩) m cp (some (.int .i64 1)) .i64 (1 + (key.size : Int)) (.inr (by omega))
      clear hL
      go_enter Tryz.func137, Tryz.ntmps137
      go_wp2_with fail
      exact ⟨rfl, .inr ⟨_, _, rfl⟩, (Apart.refl _ _).drewN _⟩
    · have s1 := fun W => run_slice_mid (g := g) (i := i) (m := m) (cp := cp) (lo := 1) (hi := 1 + key.size) (n := key.size) W (by omega) (by omega) (by omega) (by omega) 1 (1 + (key.size : Int)) rfl (by omega)
      have r1 := run_strB (c := cp - 1) (hg.rb (o := i + 1) (n := key.size) (by omega))
      obtain ⟨str, hstr⟩ : ∃ str : ByteArray, str = ⟨((L.drop (i + 1)).take key.size).toArray⟩ := ⟨_, rfl⟩
      have hss : str.size ≤ 100 := by rw [hstr]; show (List.toArray _).size ≤ 100; simp; omega
      rw [← hstr] at r1
      clear hstr hL
      go_enter Tryz.func137, Tryz.ntmps137
      have hq0 := hq.frozen 0
      have hq1 := hq.cell 0
      simp only [List.getElem?_toArray, List.getElem?_cons_zero] at hq1
      go_wp2_with fail
      refine (toTitle str _ (by omega)).mono ?_
      rintro e w1 ⟨rfl, hb1⟩
      have hQ1 := hq.after hb1 (Nat.le_refl _)
      have hG1 := hg.after hb1 (Nat.le_refl _)
      have d0 := hQ1.cell 0
      have f0 := hQ1.frozen 0
      simp only [List.getElem?_toArray, List.getElem?_cons_zero] at d0
      have hQ2 := hQ1.set_ 0 (.string ⟨(titleL str.data.toList).toArray⟩)
      have hG2 := hG1.farN (b := q) (o := 0) (Ne.symm hqg) (.string ⟨(titleL str.data.toList).toArray⟩)
      have hA2 : Apart [q] w (w1.setCell ⟨q, 0, none⟩ (.string ⟨(titleL str.data.toList).toArray⟩)) := (Apart.of_below hb1).setN (.inl (by simp)) _
      have HW := Lib.hid (⟨hQ2, hG2, hA2⟩ : _ ∧ _ ∧ _)
      clear hQ2 hG2 hA2 r1 c0 hq0 hq1 hQ1 hG1 hb1
      by_cases hc : cp < 1 + key.size + 4
      · obtain ⟨pv, nd, hrun⟩ := run_slice_high_panics (P := Tryz.prog) (w := w1.setCell ⟨q, 0, none⟩ (.string ⟨(titleL str.data.toList).toArray⟩)) 23 5 Tryz.u_bytes (some ⟨g, i, none⟩) m cp (some (.int .i64 (1 + (key.size : Int)))) .i64 (1 + (key.size : Int) + 4) (.inr (by omega))
        go_wp2_with fail
        exact ⟨rfl, .inr ⟨_, _, rfl⟩, HW.out.2.2.drewN _⟩
      · have s2 := fun W => run_slice_mid (g := g) (i := i) (m := m) (cp := cp) (lo := 1 + key.size) (hi := 1 + key.size + 4) (n := 4) W (by omega) (by omega) (by omega) (by omega) (1 + (key.size : Int)) (1 + (key.size : Int) + 4) (by omega) (by omega)
        go_wp2_with fail
        have hG2 := HW.out.2.1
        have hA2 := HW.out.2.2
        generalize w1.setCell ⟨q, 0, none⟩ (.string ⟨(titleL str.data.toList).toArray⟩) = W2 at *
        refine (beUint32 g (i + (1 + key.size)) 4 (cp - (1 + key.size)) 5 L _ hG2 (by decide) (by decide) (by rw [HL.out]; omega) _ _ _ _ rfl rfl rfl rfl).mono ?_
        rintro e w3 ⟨rfl, nk, rfl⟩
        have hvv : m < 1 + key.size + 4 + ((L.getD (i + (1 + key.size)) 0).toNat * 16777216 + (L.getD (i + (1 + key.size) + 1) 0).toNat * 65536 + (L.getD (i + (1 + key.size) + 2) 0).toNat * 256 + (L.getD (i + (1 + key.size) + 3) 0).toNat) := by
          by_cases h5 : 1 + key.size + 4 ≤ m
          · obtain ⟨b0, b1, b2, b3⟩ := HP.out h5
            rw [b0, b1, b2, b3, be4_sum hv]
            omega
          · omega
        have hbd : (L.getD (i + (1 + key.size)) 0).toNat * 16777216 + (L.getD (i + (1 + key.size) + 1) 0).toNat * 65536 + (L.getD (i + (1 + key.size) + 2) 0).toNat * 256 + (L.getD (i + (1 + key.size) + 3) 0).toNat < 4294967296 := by
          have l0 := (L.getD (i + (1 + key.size)) 0).toNat_lt
          have l1 := (L.getD (i + (1 + key.size) + 1) 0).toNat_lt
          have l2 := (L.getD (i + (1 + key.size) + 2) 0).toNat_lt
          have l3 := (L.getD (i + (1 + key.size) + 3) 0).toNat_lt
          omega
        generalize (L.getD (i + (1 + key.size)) 0).toNat * 16777216 + (L.getD (i + (1 + key.size) + 1) 0).toNat * 65536 + (L.getD (i + (1 + key.size) + 2) 0).toNat * 256 + (L.getD (i + (1 + key.size) + 3) 0).toNat = v at *
        clear s1 s2 HW d0 f0
        go_wp2_with fail
        go_ret2
        exact ⟨.inl ⟨_, _, rfl⟩, hA2.drewN _⟩
end Go.Proofs.YtkpcepdalegmmaaGreatDoor

/-! Properties: (*Metadata).UnmarshalZMTP. -/
namespace Go.Proofs.YtkpcepdalegmmaaGreatDoor
open Go.RowKit

theorem Apart.viaB {ps qs : List Nat} {a b c : World} (h : Apart ps a b) (k : Apart qs b c) (hq : ∀ i, i < a.heap.size → i ∈ qs → i ∈ ps) : Apart ps a c :=
  ⟨k.os.trans h.os, k.tape.trans h.tape, k.output.trans h.output, Nat.le_trans h.size k.size, fun i hi hn => (k.block i (Nat.lt_of_lt_of_le hi h.size) (fun hm => hn (hq i hi hm))).trans (h.block i hi hn)⟩

def kvFit (kv : Kv) : Prop := 1 ≤ kv.key.size ∧ kv.key.size ≤ 100 ∧ kv.val.size ≤ 300
/-- A map's content, once the properties have been read into it. -/
def nameS (s : ByteArray) : ByteArray := titleS (titleS s)
def putKv (D : DataW Unit) (kv : Kv) : DataW Unit := D.put (.string (nameS kv.key).data.toList) (.lit (.string kv.val.data.toList))
def mdOf (kvs : List Kv) : DataW Unit := kvs.foldl putKv (.map [])
def MapIs (w : World) (B n : Nat) (D : DataW Unit) : Prop := w.ownsMap Tryz.prog 9 (plainElem Tryz.prog 9) B n D
theorem mdOf_snoc (l : List Kv) (kv : Kv) : mdOf (l ++ [kv]) = putKv (mdOf l) kv := by simp [mdOf]
theorem strKeyed : Go.Maps.Keyed Tryz.prog 9 := Go.Maps.string_keyed Tryz.u_string

section
variable {w w' : World} {B n : Nat} {D : DataW Unit}
theorem MapIs.apart {ps : List Nat} (h : MapIs w B n D) (ha : Apart ps w w') (hn : B ∉ ps) : MapIs w' B n D := by
  obtain ⟨es, clock, hb, r⟩ := h
  exact ⟨es, clock, (ha.block B (Array.getElem?_eq_some_iff.1 hb).1 hn).trans hb, r⟩
theorem MapIs.lt (h : MapIs w B n D) : B < w.heap.size := by
  obtain ⟨es, clock, hb, r⟩ := h
  exact (Array.getElem?_eq_some_iff.1 hb).1
theorem MapIs.ne_ (h : MapIs w B n D) {g : Nat} {t : TypeId} {cs : Array Value} (hb : Blk w g t cs) : g ≠ B := by
  rintro rfl
  obtain ⟨es, clock, hm, _⟩ := h
  unfold Blk at hb
  rw [hb] at hm
  cases hm
theorem titleS_size (s : ByteArray) : (titleS s).size = s.size := by
  show (List.toArray _).size = _
  simp [titleL, titleRun_length]
theorem nameS_size (s : ByteArray) : (nameS s).size = s.size := by rw [nameS, titleS_size, titleS_size]
/-- 'm[name] = v'. -/
theorem MapIs.put (h : MapIs w B n D) (hn : n < 1000) (kv : Kv) (hk : kv.key.size ≤ 100) (hv : kv.val.size ≤ 300) :
    ∃ w', (Instr.mapUpdate 55 (.map (some B)) (.string (nameS kv.key)) (.string kv.val)).run Tryz.prog w = .ok () w' ∧ MapIs w' B (n + 1) (putKv D kv) ∧ w.grownBy w' (some B) := by
  have hks : (nameS kv.key).size ≤ maxLen := by rw [nameS_size]; unfold maxLen; omega
  have hvs : kv.val.size ≤ maxLen := by unfold maxLen; omega
  exact World.ownsMap.update h strKeyed Tryz.underlying55 (by unfold maxLen; omega) (Go.WideMaps.keyOf_string_mk Tryz.u_string hks) (plainElem_string Tryz.u_string hvs)
end

theorem encKVs_split {kvs : List Kv} {j : Nat} {kv : Kv} (h : kvs[j]? = some kv) : encKVs kvs = encKVs (kvs.take j) ++ (encKV kv ++ encKVs (kvs.drop (j + 1))) := by
  obtain ⟨h1, h2⟩ := List.getElem?_eq_some_iff.1 h
  have e : kvs = kvs.take j ++ (kv :: kvs.drop (j + 1)) := by rw [← h2, ← List.drop_eq_getElem_cons h1, List.take_append_drop]
  conv => lhs; rw [e]
  simp [encKVs]
theorem at_whole {L tail : List UInt8} {n j : Nat} {kvs : List Kv} {kv : Kv} (h : L.take n = encKVs kvs ++ tail) (hj : kvs[j]? = some kv) :
    L.drop (encKVs (kvs.take j)).length = encKV kv ++ (encKVs (kvs.drop (j + 1)) ++ tail ++ L.drop n) := by
  have e : L = encKVs (kvs.take j) ++ (encKV kv ++ (encKVs (kvs.drop (j + 1)) ++ tail ++ L.drop n)) := by
    conv => lhs; rw [← List.take_append_drop n L, h, encKVs_split hj]
    simp
  conv => lhs; rw [e, List.drop_left]
theorem whole_le {L tail : List UInt8} {n j : Nat} {kvs : List Kv} {kv : Kv} (h : L.take n = encKVs kvs ++ tail) (hn : n ≤ L.length) (hj : kvs[j]? = some kv) : (encKVs (kvs.take j)).length + (encKV kv).length ≤ n := by
  have := congrArg List.length h
  rw [encKVs_split hj] at this
  simp at this
  omega
theorem take_next {kvs : List Kv} {j : Nat} {kv : Kv} (hj : kvs[j]? = some kv) : (encKVs (kvs.take (j + 1))).length = (encKVs (kvs.take j)).length + (encKV kv).length := by
  obtain ⟨h1, h2⟩ := List.getElem?_eq_some_iff.1 hj
  rw [List.take_succ_eq_append_getElem h1, h2]
  simp [encKVs]
theorem at_tail {L tail : List UInt8} {n : Nat} {kvs : List Kv} (h : L.take n = encKVs kvs ++ tail) : (L.drop (encKVs kvs).length).take (n - (encKVs kvs).length) = tail := by
  rw [← List.drop_take, h, List.drop_left]
theorem tail_len {L tail : List UInt8} {n : Nat} {kvs : List Kv} (h : L.take n = encKVs kvs ++ tail) (hn : n ≤ L.length) : (encKVs kvs).length + tail.length = n := by
  have := congrArg List.length h
  simp at this
  omega

/-- Bytes that end within a property. -/
def CutKv (tail : List UInt8) : Prop := ∃ kv, kvFit kv ∧ 0 < tail.length ∧ tail.length < (encKV kv).length ∧ tail = (encKV kv).take tail.length
/-- What UnmarshalZMTP comes to. -/
def UnmPost (w : World) (B : Nat) (kvs : List Kv) (tail : List UInt8) (e : Ending) (w' : World) : Prop :=
  (tail = [] → e = .returned .nilIface ∧ MapIs w' B kvs.length (mdOf kvs)) ∧ (tail ≠ [] → (∃ s : ByteArray, e = .returned (.iface 87 (.string s))) ∨ (∃ u pv, e = .panicked [{ v := .iface u pv, recovered := false }])) ∧ Apart [B] w w'

set_option maxRecDepth 100000 in
set_option maxHeartbeats 8000000 in
theorem UnmarshalZMTP (mp B g n cp : Nat) (L tail : List UInt8) (kvs : List Kv) (w : World) (hmp : Blk w mp 55 #[.map (some B)]) (hm : MapIs w B 0 (.map [])) (hg : BB w g 5 L) (hL : L.length = cp) (hn : n ≤ cp) (hn2 : n ≤ 2147483647)
    (hT : L.take n = encKVs kvs ++ tail) (hf : ∀ kv ∈ kvs, kvFit kv) (hk10 : kvs.length ≤ 10) (ht : tail = [] ∨ CutKv tail) :
    Calls Tryz.prog 136 #[.pointer (some ⟨mp, 0, none⟩), .slice (some ⟨g, 0, none⟩) n cp] w (UnmPost w B kvs tail) := by
  have hmB : mp ≠ B := hm.ne_ hmp
  have hgB : g ≠ B := hm.ne_ hg
  have hBw := hm.lt
  have HM0 := Lib.hid hm
  have HP := Lib.hid hmp
  have HG := Lib.hid hg
  have HT := Lib.hid (⟨hT, hf, ht, hL⟩ : _ ∧ _ ∧ _ ∧ _)
  have hmw := hmp.lt
  have hgw := hg.lt
  clear hm hmp hg hT hf ht hL
  go_enter Tryz.func136, Tryz.ntmps136
  go_wp2_with fail
  go_loopw [5] (fun i wr => ∃ (j p : Nat), j ≤ kvs.length ∧ p ≤ n ∧ i = .int .i64 p ∧ Hid (p = (encKVs (kvs.take j)).length) ∧ Hid (MapIs wr B j (mdOf (kvs.take j))) ∧ Hid (Apart [B] w wr)) (fun i _ => n - (intOf i).toNat)
  case atStart => exact ⟨0, 0, Nat.zero_le _, Nat.zero_le _, rfl, Lib.hid rfl, HM0, Lib.hid (Apart.refl _ _)⟩
  case round =>
    obtain ⟨j, p, hj, hpn, rfl, hp, hm, ha⟩ := hrel
    by_cases hlt : p < n
    · have cutp : ∀ W, (Instr.slice 23 (.slice (some ⟨g, 0, none⟩) n cp) (some (.int .i64 (p : Int))) none none).run Tryz.prog W = .ok (.slice (some ⟨g, p, none⟩) (n - p) (cp - p)) W := fun W => by
        have h := run_slice_lo (some ⟨g, 0, none⟩) n cp W p (by omega)
        have e : cutA (some ⟨g, 0, none⟩) cp p = some ⟨g, p, none⟩ := by
          unfold cutA
          rw [if_neg (by omega)]
          simp [Addr.add_lit]
        rw [e] at h
        exact h
      have hap := ha.out
      have hsz := hap.size
      have hQ := Blk.new wr 99 #[.string ⟨#[]⟩, .string ⟨#[]⟩]
      have hG2 := (hap.blk HG.out (by simpa using hgB)).alloc (.cells #[.string ⟨#[]⟩, .string ⟨#[]⟩] 99)
      have hP2 := (hap.blk HP.out (by simpa using hmB)).alloc (.cells #[.string ⟨#[]⟩, .string ⟨#[]⟩] 99)
      have hM2 : MapIs (wr.alloc (.cells #[.string ⟨#[]⟩, .string ⟨#[]⟩] 99)) B j (mdOf (kvs.take j)) := hm.out.apart (ps := []) (Apart.of_below ((Below.refl _ _).alloc (Nat.le_refl _) _)) (by simp)
      have hA2 : Apart [B] w (wr.alloc (.cells #[.string ⟨#[]⟩, .string ⟨#[]⟩] 99)) := hap.alloc _
      have HS := Lib.hid (⟨hQ, hG2, hP2, hM2, hA2⟩ : _ ∧ _ ∧ _ ∧ _ ∧ _)
      have hqs : (wr.alloc (.cells #[.string ⟨#[]⟩, .string ⟨#[]⟩] 99)).heap.size = wr.heap.size + 1 := by simp
      have HQS := Lib.hid hqs
      have hBq : B < wr.heap.size := by omega
      clear hap hQ hG2 hP2 hM2 hA2 hqs
      by_cases hjl : j < kvs.length
      · obtain ⟨kv, hkv⟩ : ∃ kv, kvs[j]? = some kv := ⟨kvs[j], List.getElem?_eq_getElem hjl⟩
        have hfit := HT.out.2.1 kv (List.mem_of_getElem? hkv)
        have hD := at_whole HT.out.1 hkv
        rw [← hp.out] at hD
        have hwl := whole_le HT.out.1 (by rw [HT.out.2.2.2]; exact hn) hkv
        rw [← hp.out] at hwl
        have hnx := take_next hkv
        rw [← hp.out] at hnx
        have hmd : mdOf (kvs.take (j + 1)) = putKv (mdOf (kvs.take j)) kv := by
          rw [List.take_succ_eq_append_getElem hjl, (List.getElem?_eq_some_iff.1 hkv).2, mdOf_snoc]
        have hpos : 0 < (encKV kv).length := by rw [encKV_length]; omega
        obtain ⟨m, hme⟩ : ∃ m, m = (encKV kv).length := ⟨_, rfl⟩
        have hc := Write_ok wr.heap.size g p (n - p) (cp - p) L _ (.string ⟨#[]⟩) (.string ⟨#[]⟩) kv _ HS.out.1 HS.out.2.1 (by rw [HT.out.2.2.2]; omega) (by omega) (by omega) (by omega) hD hfit.1 hfit.2.1 hfit.2.2
        rw [← hme] at hwl hnx hpos hc
        have HC := Lib.hid hc
        have HN := Lib.hid (⟨hnx, hmd, hfit⟩ : _ ∧ _ ∧ _)
        clear hc hD hkv hnx hmd hfit hme
        go_wp2_with fail
        refine HC.out.mono ?_
        rintro e w1 ⟨rfl, hQ1, hA1⟩
        have hq0 := hQ1.cell 0
        simp only [List.getElem?_toArray, List.getElem?_cons_zero] at hq0
        obtain ⟨hQ0, hG2, hP2, hM2, hA2⟩ := HS.out
        have hq1 : wr.heap.size ∉ [B] := by simp; omega
        have hM3 := hM2.apart hA1 (by simp; omega)
        have hP3 := hA1.blk hP2 (by simp; omega)
        have hA3 := hA2.viaB hA1 (fun i hi hm => by simp at hm; omega)
        have HS3 := Lib.hid (⟨hQ1, hP3, hM3, hA3⟩ : _ ∧ _ ∧ _ ∧ _)
        clear hQ0 hQ1 hA1 hG2 hP2 hM2 hA2 hM3 hP3 hA3 HC HS
        go_wp2_with fail
        refine (toTitle (titleS kv.key) _ (by rw [titleS_size]; have := HN.out.2.2.2.1; omega)).mono ?_
        rintro e w2 ⟨rfl, hb2⟩
        have en : (⟨(titleL (titleS kv.key).data.toList).toArray⟩ : ByteArray) = nameS kv.key := rfl
        rw [en]
        obtain ⟨hQ1, hP3, hM3, hA3⟩ := HS3.out
        have hQ4 := (hQ1.after hb2 (Nat.le_refl _)).drew
        have hP4 := (hP3.after hb2 (Nat.le_refl _)).drew
        have hM4 : MapIs w2.drew B j (mdOf (kvs.take j)) := hM3.apart (ps := []) (Apart.of_below hb2).drew (by simp)
        have hA4 := (hA3.then_below hb2).drew
        obtain ⟨w5, hrun, hM5, hg5⟩ := hM4.put (by omega) kv HN.out.2.2.2.1 HN.out.2.2.2.2
        rw [← HN.out.2.1] at hM5
        have hA5 : Apart [B] w w5 := hA4.trans (Apart.of_grown hg5 (fun g e => by cases e; exact .inl (by simp)))
        have hneP : some mp ≠ some B := by simpa using hmB
        have hneQ : some wr.heap.size ≠ some B := by simp; omega
        have m0 := hP4.cell 0
        have q1 := hQ4.cell 1
        have m5 := (hP4.grown hg5 hneP).cell 0
        have q5 := (hQ4.grown hg5 hneQ).cell 1
        simp only [List.getElem?_toArray, List.getElem?_cons_zero, List.getElem?_cons_succ] at m0 q1 m5 q5
        have HM5 := Lib.hid hM5
        have HA5 := Lib.hid hA5
        clear en hQ1 hP3 hM3 hA3 hQ4 hP4 hM4 hA4 hM5 hA5 hq0 HS3 hb2
        go_wp2_with fail
        go_region_held3 (fun V => V.cell? ⟨mp, 0, none⟩ = some (.map (some B)) ∧ V.cell? ⟨wr.heap.size, 1, none⟩ = some (.string kv.val))
          ((first | exact ⟨m0, q1⟩ | exact ⟨m5, q5⟩))
          (fail)
        clear m0 q1 m5 q5 hrun
        go_roundw
        case rel =>
          (repeat apply Exists.intro)
          exact ⟨⟨j + 1, p + m, by omega, hwl, by go_num, Lib.hid HN.out.1.symm, HM5, HA5⟩, rfl⟩
        case measure => simp [intOf]; omega
      · have hje : kvs.take j = kvs := List.take_of_length_le (by omega)
        rw [hje] at hp hm
        have htl := tail_len HT.out.1 (by rw [HT.out.2.2.2]; exact hn)
        rw [← hp.out] at htl
        have htn : tail ≠ [] := by intro e; rw [e] at htl; simp at htl; omega
        have htt := at_tail HT.out.1
        rw [← hp.out] at htt
        obtain ⟨kv, hfit, hl0, hl1, hcut⟩ := HT.out.2.2.1.resolve_left htn
        have hnp : n - p = tail.length := by omega
        rw [← hnp] at hl0 hl1 hcut
        rw [hcut] at htt
        have hc := Write_cut wr.heap.size g p (n - p) (cp - p) L (.string ⟨#[]⟩) (.string ⟨#[]⟩) kv _ HS.out.1 HS.out.2.1 (by rw [HT.out.2.2.2]; omega) (by omega) (by omega) hl0 hl1 htt hfit.1 hfit.2.1 hfit.2.2
        have HC := Lib.hid hc
        have HTN := Lib.hid htn
        clear hc hcut htt hfit hl0 hl1 hnp htl hje htn
        go_wp2_with fail
        refine HC.out.mono ?_
        rintro e w1 ⟨(⟨nn, str, rfl⟩ | ⟨u, pv, rfl⟩), hA1⟩
        · have hA3 := Lib.hid (HS.out.2.2.2.2.viaB hA1 (fun i hi hm => by simp at hm; omega))
          clear hA1 HC HS
          go_wp2_with fail
          go_ret
          exact ⟨fun e => absurd e HTN.out, fun _ => .inl ⟨_, rfl⟩, hA3.out⟩
        · have hA3 := Lib.hid (HS.out.2.2.2.2.viaB hA1 (fun i hi hm => by simp at hm; omega))
          clear hA1 HC HS
          go_wp2_with fail
          exact ⟨rfl, fun e => absurd e HTN.out, fun _ => .inr ⟨_, _, rfl⟩, hA3.out⟩
    · have hpn2 : p = n := by omega
      have hjn : tail = [] ∧ j = kvs.length := by
        have hL := HT.out.2.2.2
        by_cases hjl : j < kvs.length
        · have hwl := whole_le (kv := kvs[j]) HT.out.1 (by rw [hL]; exact hn) (List.getElem?_eq_getElem hjl)
          rw [← hp.out, encKV_length] at hwl
          omega
        · have htl := tail_len HT.out.1 (by rw [hL]; exact hn)
          have hje : kvs.take j = kvs := List.take_of_length_le (by omega)
          have := hp.out
          rw [hje] at this
          exact ⟨List.eq_nil_of_length_eq_zero (by omega), by omega⟩
      have HJ := Lib.hid hjn
      clear hjn
      go_wp2_with fail
      go_ret
      have h5 := hm.out
      rw [HJ.out.2, List.take_of_length_le (Nat.le_refl _)] at h5
      exact ⟨fun _ => ⟨rfl, h5⟩, fun e => absurd HJ.out.1 e, ha.out⟩
end Go.Proofs.YtkpcepdalegmmaaGreatDoor
