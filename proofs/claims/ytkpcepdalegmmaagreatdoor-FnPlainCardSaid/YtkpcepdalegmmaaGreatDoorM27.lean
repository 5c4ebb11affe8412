/- Parts of a proof, laid behind one another: Properties: UnmarshalZMTP into a map that a field holds. PLAIN: the names and bodies of a handshake. -/
import Derived.Test.YtkpcepdalegmmaaGreatDoorM22
import Derived.Test.YtkpcepdalegmmaaGreatDoorM21
import Derived.Test.YtkpcepdalegmmaaGreatDoorM26
import Derived.Deep.RegionHeld3
/-! Properties: UnmarshalZMTP into a map that a field holds. -/
namespace Go.Proofs.YtkpcepdalegmmaaGreatDoor
open Go.RowKit

/-- A variable holds the map in block B. -/
def MpAt (w : World) (mp mo B : Nat) : Prop := mp < w.heap.size ∧ w.cell? ⟨mp, mo, none⟩ = some (.map (some B))
section
variable {w w' : World} {mp mo B : Nat}
theorem MpAt.apart {ps : List Nat} (h : MpAt w mp mo B) (ha : Apart ps w w') (hn : mp ∉ ps) : MpAt w' mp mo B := ⟨Nat.lt_of_lt_of_le h.1 ha.size, (ha.cell (p := ⟨mp, mo, none⟩) h.1 hn).trans h.2⟩
theorem MpAt.alloc (h : MpAt w mp mo B) (o : Obj) : MpAt (w.alloc o) mp mo B := h.apart (ps := []) ((Apart.refl _ _).alloc o) (by simp)
theorem MpAt.drew (h : MpAt w mp mo B) : MpAt w.drew mp mo B := h
end

set_option maxRecDepth 100000 in
set_option maxHeartbeats 8000000 in
theorem UnmarshalAt (mp mo B g off n cp : Nat) (L : List UInt8) (kvs : List Kv) (w : World) (hmp : MpAt w mp mo B) (hmB : mp ≠ B) (hm : MapIs w B 0 (.map [])) (hg : BB w g 5 L) (hL : L.length = off + cp) (hn : n ≤ cp) (hn2 : n ≤ 2147483647)
    (hT : (L.drop off).take n = encKVs kvs ++ []) (hf : ∀ kv ∈ kvs, kvFit kv) (hk10 : kvs.length ≤ 10) :
    Calls Tryz.prog 136 #[.pointer (some ⟨mp, mo, none⟩), .slice (some ⟨g, off, none⟩) n cp] w fun e w' => e = .returned .nilIface ∧ MapIs w' B kvs.length (mdOf kvs) ∧ Apart [B] w w' := by
  have hgB : g ≠ B := hm.ne_ hg
  have hBw := hm.lt
  have HM0 := Lib.hid hm
  have HP := Lib.hid hmp
  have HG := Lib.hid hg
  have HT := Lib.hid (⟨hT, hf, hL⟩ : _ ∧ _ ∧ _)
  have hmw := hmp.1
  have hgw := hg.lt
  clear hm hmp hg hT hf hL
  go_enter Tryz.func136, Tryz.ntmps136
  go_wp2_with fail
  go_loopw [5] (fun i wr => ∃ (j p : Nat), j ≤ kvs.length ∧ p ≤ n ∧ i = .int .i64 p ∧ Hid (p = (encKVs (kvs.take j)).length) ∧ Hid (MapIs wr B j (mdOf (kvs.take j))) ∧ Hid (Apart [B] w wr)) (fun i _ => n - (intOf i).toNat)
  case atStart => exact ⟨0, 0, Nat.zero_le _, Nat.zero_le _, rfl, Lib.hid rfl, HM0, Lib.hid (Apart.refl _ _)⟩
  case round =>
    obtain ⟨j, p, hj, hpn, rfl, hp, hm, ha⟩ := hrel
    by_cases hlt : p < n
    · have cutp : ∀ W, (Instr.slice 23 (.slice (some ⟨g, off, none⟩) n cp) (some (.int .i64 (p : Int))) none none).run Tryz.prog W = .ok (.slice (some ⟨g, off + p, none⟩) (n - p) (cp - p)) W := fun W => by
        have h := run_slice_lo (some ⟨g, off, none⟩) n cp W p (by omega)
        have e : cutA (some ⟨g, off, none⟩) cp p = some ⟨g, off + p, none⟩ := by
          unfold cutA
          rw [if_neg (by omega)]
          simp [Addr.add_lit]
        rw [e] at h
        exact h
      have hap := ha.out
      have hsz := hap.size
      have hQ := Blk.new wr 99 #[.string ⟨#[]⟩, .string ⟨#[]⟩]
      have hG2 := (hap.blk HG.out (by simpa using hgB)).alloc (.cells #[.string ⟨#[]⟩, .string ⟨#[]⟩] 99)
      have hP2 := (HP.out.apart hap (by simpa using hmB)).alloc (.cells #[.string ⟨#[]⟩, .string ⟨#[]⟩] 99)
      have hM2 : MapIs (wr.alloc (.cells #[.string ⟨#[]⟩, .string ⟨#[]⟩] 99)) B j (mdOf (kvs.take j)) := hm.out.apart (ps := []) (Apart.of_below ((Below.refl _ _).alloc (Nat.le_refl _) _)) (by simp)
      have hA2 : Apart [B] w (wr.alloc (.cells #[.string ⟨#[]⟩, .string ⟨#[]⟩] 99)) := hap.alloc _
      have HS := Lib.hid (⟨hQ, hG2, hP2, hM2, hA2⟩ : _ ∧ _ ∧ _ ∧ _ ∧ _)
      have hqs : (wr.alloc (.cells #[.string ⟨#[]⟩, .string ⟨#[]⟩] 99)).heap.size = wr.heap.size + 1 := by simp
      have HQS := Lib.hid hqs
      have hBq : B < wr.heap.size := by omega
      clear hap hQ hG2 hP2 hM2 hA2 hqs
      by_cases hjl : j < kvs.length
      · obtain ⟨kv, hkv⟩ : ∃ kv, kvs[j]? = some kv := ⟨kvs[j], List.getElem?_eq_getElem hjl⟩
        have hfit := HT.out.2.1 kv (List.mem_of_getElem? hkv)
        have hD := at_whole HT.out.1 hkv
        rw [← hp.out, List.drop_drop] at hD
        have hwl := whole_le HT.out.1 (by rw [List.length_drop, HT.out.2.2]; omega) hkv
        rw [← hp.out] at hwl
        have hnx := take_next hkv
        rw [← hp.out] at hnx
        have hmd : mdOf (kvs.take (j + 1)) = putKv (mdOf (kvs.take j)) kv := by
          rw [List.take_succ_eq_append_getElem hjl, (List.getElem?_eq_some_iff.1 hkv).2, mdOf_snoc]
        have hpos : 0 < (encKV kv).length := by rw [encKV_length]; omega
        obtain ⟨m, hme⟩ : ∃ m, m = (encKV kv).length := ⟨_, rfl⟩
        have hc := Write_ok wr.heap.size g (off + p) (n - p) (cp - p) L _ (.string ⟨#[]⟩) (.string ⟨#[]⟩) kv _ HS.out.1 HS.out.2.1 (by rw [HT.out.2.2]; omega) (by omega) (by omega) (by omega) hD hfit.1 hfit.2.1 hfit.2.2
        rw [← hme] at hwl hnx hpos hc
        have HC := Lib.hid hc
        have HN := Lib.hid (⟨hnx, hmd, hfit⟩ : _ ∧ _ ∧ _)
        clear hc hD hkv hnx hmd hfit hme
        go_wp2_with fail
        refine HC.out.mono ?_
        rintro e w1 ⟨rfl, hQ1, hA1⟩
        have hq0 := hQ1.cell 0
        simp only [List.getElem?_toArray, List.getElem?_cons_zero] at hq0
        obtain ⟨hQ0, hG2, hP2, hM2, hA2⟩ := HS.out
        have hq1 : wr.heap.size ∉ [B] := by simp; omega
        have hM3 := hM2.apart hA1 (by simp; omega)
        have hP3 := hP2.apart hA1 (by simp; omega)
        have hA3 := hA2.viaB hA1 (fun i hi hm => by simp at hm; omega)
        have HS3 := Lib.hid (⟨hQ1, hP3, hM3, hA3⟩ : _ ∧ _ ∧ _ ∧ _)
        clear hQ0 hQ1 hA1 hG2 hP2 hM2 hA2 hM3 hP3 hA3 HC HS
        go_wp2_with fail
        refine (toTitle (titleS kv.key) _ (by rw [titleS_size]; have := HN.out.2.2.2.1; omega)).mono ?_
        rintro e w2 ⟨rfl, hb2⟩
        have en : (⟨(titleL (titleS kv.key).data.toList).toArray⟩ : ByteArray) = nameS kv.key := rfl
        rw [en]
        obtain ⟨hQ1, hP3, hM3, hA3⟩ := HS3.out
        have hQ4 := (hQ1.after hb2 (Nat.le_refl _)).drew
        have hP4 := (hP3.apart (ps := []) (Apart.of_below hb2) (by simp)).drew
        have hM4 : MapIs w2.drew B j (mdOf (kvs.take j)) := hM3.apart (ps := []) (Apart.of_below hb2).drew (by simp)
        have hA4 := (hA3.then_below hb2).drew
        obtain ⟨w5, hrun, hM5, hg5⟩ := hM4.put (by omega) kv HN.out.2.2.2.1 HN.out.2.2.2.2
        rw [← HN.out.2.1] at hM5
        have hA5 : Apart [B] w w5 := hA4.trans (Apart.of_grown hg5 (fun g e => by cases e; exact .inl (by simp)))
        have hneQ : some wr.heap.size ≠ some B := by simp; omega
        have m0 := hP4.2
        have q1 := hQ4.cell 1
        have m5 := (hP4.apart (Apart.of_grown (ps := [B]) hg5 (fun g e => by cases e; exact .inl (by simp))) (by simpa using hmB)).2
        have q5 := (hQ4.grown hg5 hneQ).cell 1
        simp only [List.getElem?_toArray, List.getElem?_cons_zero, List.getElem?_cons_succ] at q1 q5
        have HM5 := Lib.hid hM5
        have HA5 := Lib.hid hA5
        clear en hQ1 hP3 hM3 hA3 hQ4 hP4 hM4 hA4 hM5 hA5 hq0 HS3 hb2
        go_wp2_with fail
        go_region_held3 (fun V => V.cell? ⟨mp, mo, none⟩ = some (.map (some B)) ∧ V.cell? ⟨wr.heap.size, 1, none⟩ = some (.string kv.val))
          ((first | exact ⟨m0, q1⟩ | exact ⟨m5, q5⟩))
          (fail)
        clear m0 q1 m5 q5 hrun
        go_roundw
        case rel =>
          (repeat apply Exists.intro)
          exact ⟨⟨j + 1, p + m, by omega, hwl, by go_num, Lib.hid HN.out.1.symm, HM5, HA5⟩, rfl⟩
        case measure => simp [intOf]; omega
      · have hje : kvs.take j = kvs := List.take_of_length_le (by omega)
        have htl := tail_len HT.out.1 (by rw [List.length_drop, HT.out.2.2]; omega)
        have h1 := hp.out
        rw [hje] at h1
        simp at htl
        omega
    · have hpn2 : p = n := by omega
      have hjn : j = kvs.length := by
        by_cases hjl : j < kvs.length
        · have hwl := whole_le (kv := kvs[j]) HT.out.1 (by rw [List.length_drop, HT.out.2.2]; omega) (List.getElem?_eq_getElem hjl)
          rw [← hp.out, encKV_length] at hwl
          omega
        · omega
      have HJ := Lib.hid hjn
      clear hjn
      go_wp2_with fail
      go_ret
      have h5 := hm.out
      rw [HJ.out, List.take_of_length_le (Nat.le_refl _)] at h5
      exact ⟨rfl, h5, ha.out⟩
end Go.Proofs.YtkpcepdalegmmaaGreatDoor

/-! PLAIN: the names and bodies of a handshake. -/
namespace Go.Proofs.YtkpcepdalegmmaaGreatDoor
open Go.RowKit

theorem make0N (C : Nat) (hC : C ≤ 1000000) (W : World) : (Instr.makeSlice 23 (.int .i64 0) (.int .i64 (C : Int))).run Tryz.prog W = .ok (.slice (some ⟨W.heap.size, 0, none⟩) 0 C) (W.alloc (.cells (bv (noughtsN C)).toArray 5)) := by
  obtain ⟨i, hi, hz0, hz1, hz2⟩ := info_parts Tryz.info_u8
  have h := run_make (P := Tryz.prog) W 23 5 i _ Tryz.u_bytes hi hz0 .i64 .i64 0 C (by omega) (by omega) (by rw [hz2]; omega) (by omega)
  simp only [Int.toNat_natCast, hz1, Nat.mul_one, made_u8z] at h
  exact h
theorem OB.room (W : World) (base C : Nat) (hb : base ≤ W.heap.size) (hC : C ≤ 1000000) : OB (W.alloc (.cells (bv (noughtsN C)).toArray 5)) base (some ⟨W.heap.size, 0, none⟩) 0 C [] :=
  ⟨by simp, .inr ⟨W.heap.size, C, _, rfl, hb, heap_alloc_new W _, Nat.zero_le _, by unfold maxLen; omega, by simp [noughtsN], by simp [bv]⟩⟩
/-- HELLO's body. -/
def helloL (u q : List UInt8) : List UInt8 := (UInt8.ofNat u.length :: u) ++ (UInt8.ofNat q.length :: q)

def helloS : ByteArray := ⟨#[72, 69, 76, 76, 79]⟩
def welcomeS : ByteArray := ⟨#[87, 69, 76, 67, 79, 77, 69]⟩
def initS : ByteArray := ⟨#[73, 78, 73, 84, 73, 65, 84, 69]⟩
def readyS : ByteArray := ⟨#[82, 69, 65, 68, 89]⟩

def repS : ByteArray := ⟨#[82, 69, 80]⟩
def reqK : List Kv := [⟨idS, ⟨#[]⟩⟩, ⟨stS, reqS⟩]
def repK : List Kv := [⟨stS, repS⟩]
theorem kvGood_two {a b : Kv} (ha : kvOne a) (hb : kvOne b) (hab : kvTwo a b) : KvGood [a, b] := by
  refine ⟨(((KvUpto.zero _).next (k := 0) rfl ha (fun g h => by omega)).next (k := 1) rfl hb (fun g _ hg => ?_)), by simp⟩
  simp at hg
  rw [← hg]
  exact hab
theorem kvGood_one {a : Kv} (ha : kvOne a) : KvGood [a] := ⟨(KvUpto.zero _).next (k := 0) rfl ha (fun g h => by omega), by simp⟩
theorem reqGood : KvGood reqK := kvGood_two ⟨by decide +kernel, by decide +kernel, by decide +kernel⟩ ⟨by decide +kernel, by decide +kernel, by decide +kernel⟩ ⟨by decide +kernel, by decide +kernel⟩
theorem repGood : KvGood repK := kvGood_one ⟨by decide +kernel, by decide +kernel, by decide +kernel⟩
theorem reqUsual : ∀ f ∈ reqK, usualK f := by
  intro f hf
  simp only [reqK, List.mem_cons, List.not_mem_nil, or_false] at hf
  rcases hf with rfl | rfl
  · exact .inl rfl
  · exact .inr rfl
theorem repUsual : ∀ f ∈ repK, usualK f := by
  intro f hf
  simp only [repK, List.mem_cons, List.not_mem_nil, or_false] at hf
  subst hf
  exact .inr rfl
theorem reqLen : (encKVs reqK).length = 32 := by decide +kernel
theorem repLen : (encKVs repK).length = 19 := by decide +kernel
/-- What the server says behind its greeting. -/
def readyIn : List UInt8 := [4, UInt8.ofNat (1 + readyS.size + (encKVs repK).length)] ++ (cmdBytes readyS (encKVs repK) ++ [])
def serverIn : List UInt8 := [4, UInt8.ofNat (1 + welcomeS.size + ([] : List UInt8).length)] ++ (cmdBytes welcomeS [] ++ readyIn)
/-- A command as a frame. -/
def cmdF (name : ByteArray) (body : List UInt8) : List UInt8 := headF true false (1 + name.size + body.length) ++ cmdBytes name body
theorem helloS_size : helloS.size = 5 := rfl
theorem welcomeS_size : welcomeS.size = 7 := rfl
theorem initS_size : initS.size = 8 := rfl
theorem readyS_size : readyS.size = 5 := rfl
end Go.Proofs.YtkpcepdalegmmaaGreatDoor
