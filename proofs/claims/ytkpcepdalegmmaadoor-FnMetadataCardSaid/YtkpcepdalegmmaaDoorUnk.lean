/- Properties: (*Metadata).UnmarshalZMTP. -/
import Derived.Test.YtkpcepdalegmmaaDoorProp2
import Derived.Maps.Own
import Derived.Maps.Views
import Derived.Deep.RegionHeld3
namespace Go.Proofs.YtkpcepdalegmmaaDoor
open Go.RowKit

theorem Apart.viaB {ps qs : List Nat} {a b c : World} (h : Apart ps a b) (k : Apart qs b c) (hq : ∀ i, i < a.heap.size → i ∈ qs → i ∈ ps) : Apart ps a c :=
  ⟨k.os.trans h.os, k.tape.trans h.tape, k.output.trans h.output, Nat.le_trans h.size k.size, fun i hi hn => (k.block i (Nat.lt_of_lt_of_le hi h.size) (fun hm => hn (hq i hi hm))).trans (h.block i hi hn)⟩

def kvFit (kv : Kv) : Prop := 1 ≤ kv.key.size ∧ kv.key.size ≤ 100 ∧ kv.val.size ≤ 300
/-- A map's content, once the properties have been read into it. -/
def nameS (s : ByteArray) : ByteArray := titleS (titleS s)
def putKv (D : DataW Unit) (kv : Kv) : DataW Unit := D.put (.string (nameS kv.key).data.toList) (.lit (.string kv.val.data.toList))
def mdOf (kvs : List Kv) : DataW Unit := kvs.foldl putKv (.map [])
def MapIs (w : World) (B n : Nat) (D : DataW Unit) : Prop := w.ownsMap Tryd.prog 9 (plainElem Tryd.prog 9) B n D
theorem mdOf_snoc (l : List Kv) (kv : Kv) : mdOf (l ++ [kv]) = putKv (mdOf l) kv := by simp [mdOf]
theorem strKeyed : Go.Maps.Keyed Tryd.prog 9 := Go.Maps.string_keyed Tryd.u_string

section
variable {w w' : World} {B n : Nat} {D : DataW Unit}
theorem MapIs.apart {ps : List Nat} (h : MapIs w B n D) (ha : Apart ps w w') (hn : B ∉ ps) : MapIs w' B n D := by
  obtain ⟨es, clock, hb, r⟩ := h
  exact ⟨es, clock, (ha.block B (Array.getElem?_eq_some_iff.1 hb).1 hn).trans hb, r⟩
theorem MapIs.lt (h : MapIs w B n D) : B < w.heap.size := by
  obtain ⟨es, clock, hb, r⟩ := h
  exact (Array.getElem?_eq_some_iff.1 hb).1
theorem MapIs.ne_ (h : MapIs w B n D) {g : Nat} {t : TypeId} {cs : Array Value} (hb : Blk w g t cs) : g ≠ B := by
  rintro rfl
  obtain ⟨es, clock, hm, _⟩ := h
  unfold Blk at hb
  rw [hb] at hm
  cases hm
theorem titleS_size (s : ByteArray) : (titleS s).size = s.size := by
  show (List.toArray _).size = _
  simp [titleL, titleRun_length]
theorem nameS_size (s : ByteArray) : (nameS s).size = s.size := by rw [nameS, titleS_size, titleS_size]
/-- 'm[name] = v'. -/
theorem MapIs.put (h : MapIs w B n D) (hn : n < 1000) (kv : Kv) (hk : kv.key.size ≤ 100) (hv : kv.val.size ≤ 300) :
    ∃ w', (Instr.mapUpdate 45 (.map (some B)) (.string (nameS kv.key)) (.string kv.val)).run Tryd.prog w = .ok () w' ∧ MapIs w' B (n + 1) (putKv D kv) ∧ w.grownBy w' (some B) := by
  have hks : (nameS kv.key).size ≤ maxLen := by rw [nameS_size]; unfold maxLen; omega
  have hvs : kv.val.size ≤ maxLen := by unfold maxLen; omega
  exact World.ownsMap.update h strKeyed Tryd.underlying45 (by unfold maxLen; omega) (Go.WideMaps.keyOf_string_mk Tryd.u_string hks) (plainElem_string Tryd.u_string hvs)
end

theorem encKVs_split {kvs : List Kv} {j : Nat} {kv : Kv} (h : kvs[j]? = some kv) : encKVs kvs = encKVs (kvs.take j) ++ (encKV kv ++ encKVs (kvs.drop (j + 1))) := by
  obtain ⟨h1, h2⟩ := List.getElem?_eq_some_iff.1 h
  have e : kvs = kvs.take j ++ (kv :: kvs.drop (j + 1)) := by rw [← h2, ← List.drop_eq_getElem_cons h1, List.take_append_drop]
  conv => lhs; rw [e]
  simp [encKVs]
theorem at_whole {L tail : List UInt8} {n j : Nat} {kvs : List Kv} {kv : Kv} (h : L.take n = encKVs kvs ++ tail) (hj : kvs[j]? = some kv) :
    L.drop (encKVs (kvs.take j)).length = encKV kv ++ (encKVs (kvs.drop (j + 1)) ++ tail ++ L.drop n) := by
  have e : L = encKVs (kvs.take j) ++ (encKV kv ++ (encKVs (kvs.drop (j + 1)) ++ tail ++ L.drop n)) := by
    conv => lhs; rw [← List.take_append_drop n L, h, encKVs_split hj]
    simp
  conv => lhs; rw [e, List.drop_left]
theorem whole_le {L tail : List UInt8} {n j : Nat} {kvs : List Kv} {kv : Kv} (h : L.take n = encKVs kvs ++ tail) (hn : n ≤ L.length) (hj : kvs[j]? = some kv) : (encKVs (kvs.take j)).length + (encKV kv).length ≤ n := by
  have := congrArg List.length h
  rw [encKVs_split hj] at this
  simp at this
  omega
theorem take_next {kvs : List Kv} {j : Nat} {kv : Kv} (hj : kvs[j]? = some kv) : (encKVs (kvs.take (j + 1))).length = (encKVs (kvs.take j)).length + (encKV kv).length := by
  obtain ⟨h1, h2⟩ := List.getElem?_eq_some_iff.1 hj
  rw [List.take_succ_eq_append_getElem h1, h2]
  simp [encKVs]
theorem at_tail {L tail : List UInt8} {n : Nat} {kvs : List Kv} (h : L.take n = encKVs kvs ++ tail) : (L.drop (encKVs kvs).length).take (n - (encKVs kvs).length) = tail := by
  rw [← List.drop_take, h, List.drop_left]
theorem tail_len {L tail : List UInt8} {n : Nat} {kvs : List Kv} (h : L.take n = encKVs kvs ++ tail) (hn : n ≤ L.length) : (encKVs kvs).length + tail.length = n := by
  have := congrArg List.length h
  simp at this
  omega

/-- Bytes that end within a property. -/
def CutKv (tail : List UInt8) : Prop := ∃ kv, kvFit kv ∧ 0 < tail.length ∧ tail.length < (encKV kv).length ∧ tail = (encKV kv).take tail.length
/-- What UnmarshalZMTP comes to. -/
def UnmPost (w : World) (B : Nat) (kvs : List Kv) (tail : List UInt8) (e : Ending) (w' : World) : Prop :=
  (tail = [] → e = .returned .nilIface ∧ MapIs w' B kvs.length (mdOf kvs)) ∧ (tail ≠ [] → (∃ s : ByteArray, e = .returned (.iface 70 (.string s))) ∨ (∃ u pv, e = .panicked [{ v := .iface u pv, recovered := false }])) ∧ Apart [B] w w'

set_option maxRecDepth 100000 in
set_option maxHeartbeats 8000000 in
theorem UnmarshalZMTP (mp B g n cp : Nat) (L tail : List UInt8) (kvs : List Kv) (w : World) (hmp : Blk w mp 45 #[.map (some B)]) (hm : MapIs w B 0 (.map [])) (hg : BB w g 5 L) (hL : L.length = cp) (hn : n ≤ cp) (hn2 : n ≤ 2147483647)
    (hT : L.take n = encKVs kvs ++ tail) (hf : ∀ kv ∈ kvs, kvFit kv) (hk10 : kvs.length ≤ 10) (ht : tail = [] ∨ CutKv tail) :
    Calls Tryd.prog 21 #[.pointer (some ⟨mp, 0, none⟩), .slice (some ⟨g, 0, none⟩) n cp] w (UnmPost w B kvs tail) := by
  have hmB : mp ≠ B := hm.ne_ hmp
  have hgB : g ≠ B := hm.ne_ hg
  have hBw := hm.lt
  have HM0 := Lib.hid hm
  have HP := Lib.hid hmp
  have HG := Lib.hid hg
  have HT := Lib.hid (⟨hT, hf, ht, hL⟩ : _ ∧ _ ∧ _ ∧ _)
  have hmw := hmp.lt
  have hgw := hg.lt
  clear hm hmp hg hT hf ht hL
  go_enter Tryd.func21, Tryd.ntmps21
  go_wp2_with fail
  go_loopw [5] (fun i wr => ∃ (j p : Nat), j ≤ kvs.length ∧ p ≤ n ∧ i = .int .i64 p ∧ Hid (p = (encKVs (kvs.take j)).length) ∧ Hid (MapIs wr B j (mdOf (kvs.take j))) ∧ Hid (Apart [B] w wr)) (fun i _ => n - (intOf i).toNat)
  case atStart => exact ⟨0, 0, Nat.zero_le _, Nat.zero_le _, rfl, Lib.hid rfl, HM0, Lib.hid (Apart.refl _ _)⟩
  case round =>
    obtain ⟨j, p, hj, hpn, rfl, hp, hm, ha⟩ := hrel
    by_cases hlt : p < n
    · have cutp : ∀ W, (Instr.slice 30 (.slice (some ⟨g, 0, none⟩) n cp) (some (.int .i64 (p : Int))) none none).run Tryd.prog W = .ok (.slice (some ⟨g, p, none⟩) (n - p) (cp - p)) W := fun W => by
        have h := run_slice_lo (some ⟨g, 0, none⟩) n cp W p (by omega)
        have e : cutA (some ⟨g, 0, none⟩) cp p = some ⟨g, p, none⟩ := by
          unfold cutA
          rw [if_neg (by omega)]
          simp [Addr.add_lit]
        rw [e] at h
        exact h
      have hap := ha.out
      have hsz := hap.size
      have hQ := Blk.new wr 59 #[.string ⟨#[]⟩, .string ⟨#[]⟩]
      have hG2 := (hap.blk HG.out (by simpa using hgB)).alloc (.cells #[.string ⟨#[]⟩, .string ⟨#[]⟩] 59)
      have hP2 := (hap.blk HP.out (by simpa using hmB)).alloc (.cells #[.string ⟨#[]⟩, .string ⟨#[]⟩] 59)
      have hM2 : MapIs (wr.alloc (.cells #[.string ⟨#[]⟩, .string ⟨#[]⟩] 59)) B j (mdOf (kvs.take j)) := hm.out.apart (ps := []) (Apart.of_below ((Below.refl _ _).alloc (Nat.le_refl _) _)) (by simp)
      have hA2 : Apart [B] w (wr.alloc (.cells #[.string ⟨#[]⟩, .string ⟨#[]⟩] 59)) := hap.alloc _
      have HS := Lib.hid (⟨hQ, hG2, hP2, hM2, hA2⟩ : _ ∧ _ ∧ _ ∧ _ ∧ _)
      have hqs : (wr.alloc (.cells #[.string ⟨#[]⟩, .string ⟨#[]⟩] 59)).heap.size = wr.heap.size + 1 := by simp
      have HQS := Lib.hid hqs
      have hBq : B < wr.heap.size := by omega
      clear hap hQ hG2 hP2 hM2 hA2 hqs
      by_cases hjl : j < kvs.length
      · obtain ⟨kv, hkv⟩ : ∃ kv, kvs[j]? = some kv := ⟨kvs[j], List.getElem?_eq_getElem hjl⟩
        have hfit := HT.out.2.1 kv (List.mem_of_getElem? hkv)
        have hD := at_whole HT.out.1 hkv
        rw [← hp.out] at hD
        have hwl := whole_le HT.out.1 (by rw [HT.out.2.2.2]; exact hn) hkv
        rw [← hp.out] at hwl
        have hnx := take_next hkv
        rw [← hp.out] at hnx
        have hmd : mdOf (kvs.take (j + 1)) = putKv (mdOf (kvs.take j)) kv := by
          rw [List.take_succ_eq_append_getElem hjl, (List.getElem?_eq_some_iff.1 hkv).2, mdOf_snoc]
        have hpos : 0 < (encKV kv).length := by rw [encKV_length]; omega
        obtain ⟨m, hme⟩ : ∃ m, m = (encKV kv).length := ⟨_, rfl⟩
        have hc := Write_ok wr.heap.size g p (n - p) (cp - p) L _ (.string ⟨#[]⟩) (.string ⟨#[]⟩) kv _ HS.out.1 HS.out.2.1 (by rw [HT.out.2.2.2]; omega) (by omega) (by omega) (by omega) hD hfit.1 hfit.2.1 hfit.2.2
        rw [← hme] at hwl hnx hpos hc
        have HC := Lib.hid hc
        have HN := Lib.hid (⟨hnx, hmd, hfit⟩ : _ ∧ _ ∧ _)
        clear hc hD hkv hnx hmd hfit hme
        go_wp2_with fail
        refine HC.out.mono ?_
        rintro e w1 ⟨rfl, hQ1, hA1⟩
        have hq0 := hQ1.cell 0
        simp only [List.getElem?_toArray, List.getElem?_cons_zero] at hq0
        obtain ⟨hQ0, hG2, hP2, hM2, hA2⟩ := HS.out
        have hq1 : wr.heap.size ∉ [B] := by simp; omega
        have hM3 := hM2.apart hA1 (by simp; omega)
        have hP3 := hA1.blk hP2 (by simp; omega)
        have hA3 := hA2.viaB hA1 (fun i hi hm => by simp at hm; omega)
        have HS3 := Lib.hid (⟨hQ1, hP3, hM3, hA3⟩ : _ ∧ _ ∧ _ ∧ _)
        clear hQ0 hQ1 hA1 hG2 hP2 hM2 hA2 hM3 hP3 hA3 HC HS
        go_wp2_with fail
        refine (toTitle (titleS kv.key) _ (by rw [titleS_size]; have := HN.out.2.2.2.1; omega)).mono ?_
        rintro e w2 ⟨rfl, hb2⟩
        have en : (⟨(titleL (titleS kv.key).data.toList).toArray⟩ : ByteArray) = nameS kv.key := rfl
        rw [en]
        obtain ⟨hQ1, hP3, hM3, hA3⟩ := HS3.out
        have hQ4 := (hQ1.after hb2 (Nat.le_refl _)).drew
        have hP4 := (hP3.after hb2 (Nat.le_refl _)).drew
        have hM4 : MapIs w2.drew B j (mdOf (kvs.take j)) := hM3.apart (ps := []) (Apart.of_below hb2).drew (by simp)
        have hA4 := (hA3.then_below hb2).drew
        obtain ⟨w5, hrun, hM5, hg5⟩ := hM4.put (by omega) kv HN.out.2.2.2.1 HN.out.2.2.2.2
        rw [← HN.out.2.1] at hM5
        have hA5 : Apart [B] w w5 := hA4.trans (Apart.of_grown hg5 (fun g e => by cases e; exact .inl (by simp)))
        have hneP : some mp ≠ some B := by simpa using hmB
        have hneQ : some wr.heap.size ≠ some B := by simp; omega
        have m0 := hP4.cell 0
        have q1 := hQ4.cell 1
        have m5 := (hP4.grown hg5 hneP).cell 0
        have q5 := (hQ4.grown hg5 hneQ).cell 1
        simp only [List.getElem?_toArray, List.getElem?_cons_zero, List.getElem?_cons_succ] at m0 q1 m5 q5
        have HM5 := Lib.hid hM5
        have HA5 := Lib.hid hA5
        clear en hQ1 hP3 hM3 hA3 hQ4 hP4 hM4 hA4 hM5 hA5 hq0 HS3 hb2
        go_wp2_with fail
        go_region_held3 (fun V => V.cell? ⟨mp, 0, none⟩ = some (.map (some B)) ∧ V.cell? ⟨wr.heap.size, 1, none⟩ = some (.string kv.val))
          ((first | exact ⟨m0, q1⟩ | exact ⟨m5, q5⟩))
          (fail)
        clear m0 q1 m5 q5 hrun
        go_roundw
        case rel =>
          (repeat apply Exists.intro)
          exact ⟨⟨j + 1, p + m, by omega, hwl, by go_num, Lib.hid HN.out.1.symm, HM5, HA5⟩, rfl⟩
        case measure => simp [intOf]; omega
      · have hje : kvs.take j = kvs := List.take_of_length_le (by omega)
        rw [hje] at hp hm
        have htl := tail_len HT.out.1 (by rw [HT.out.2.2.2]; exact hn)
        rw [← hp.out] at htl
        have htn : tail ≠ [] := by intro e; rw [e] at htl; simp at htl; omega
        have htt := at_tail HT.out.1
        rw [← hp.out] at htt
        obtain ⟨kv, hfit, hl0, hl1, hcut⟩ := HT.out.2.2.1.resolve_left htn
        have hnp : n - p = tail.length := by omega
        rw [← hnp] at hl0 hl1 hcut
        rw [hcut] at htt
        have hc := Write_cut wr.heap.size g p (n - p) (cp - p) L (.string ⟨#[]⟩) (.string ⟨#[]⟩) kv _ HS.out.1 HS.out.2.1 (by rw [HT.out.2.2.2]; omega) (by omega) (by omega) hl0 hl1 htt hfit.1 hfit.2.1 hfit.2.2
        have HC := Lib.hid hc
        have HTN := Lib.hid htn
        clear hc hcut htt hfit hl0 hl1 hnp htl hje htn
        go_wp2_with fail
        refine HC.out.mono ?_
        rintro e w1 ⟨(⟨nn, str, rfl⟩ | ⟨u, pv, rfl⟩), hA1⟩
        · have hA3 := Lib.hid (HS.out.2.2.2.2.viaB hA1 (fun i hi hm => by simp at hm; omega))
          clear hA1 HC HS
          go_wp2_with fail
          go_ret
          exact ⟨fun e => absurd e HTN.out, fun _ => .inl ⟨_, rfl⟩, hA3.out⟩
        · have hA3 := Lib.hid (HS.out.2.2.2.2.viaB hA1 (fun i hi hm => by simp at hm; omega))
          clear hA1 HC HS
          go_wp2_with fail
          exact ⟨rfl, fun e => absurd e HTN.out, fun _ => .inr ⟨_, _, rfl⟩, hA3.out⟩
    · have hpn2 : p = n := by omega
      have hjn : tail = [] ∧ j = kvs.length := by
        have hL := HT.out.2.2.2
        by_cases hjl : j < kvs.length
        · have hwl := whole_le (kv := kvs[j]) HT.out.1 (by rw [hL]; exact hn) (List.getElem?_eq_getElem hjl)
          rw [← hp.out, encKV_length] at hwl
          omega
        · have htl := tail_len HT.out.1 (by rw [hL]; exact hn)
          have hje : kvs.take j = kvs := List.take_of_length_le (by omega)
          have := hp.out
          rw [hje] at this
          exact ⟨List.eq_nil_of_length_eq_zero (by omega), by omega⟩
      have HJ := Lib.hid hjn
      clear hjn
      go_wp2_with fail
      go_ret
      have h5 := hm.out
      rw [HJ.out.2, List.take_of_length_le (Nat.le_refl _)] at h5
      exact ⟨fun _ => ⟨rfl, h5⟩, fun e => absurd HJ.out.1 e, ha.out⟩
end Go.Proofs.YtkpcepdalegmmaaDoor
