/- Properties: FormatMetadata of the usual properties. -/
import Derived.Test.YtkpcepdalegmmaaDoorMmz
import Derived.Test.YtkpcepdalegmmaaDoorAsc
namespace Go.Proofs.YtkpcepdalegmmaaDoor
open Go.RowKit
open Go.Maps (has IsMap)

/-- '_, ok := m[k]' of a map that lacks k. -/
theorem MapIs.lookNo {w : World} {B n : Nat} {D : DataW Unit} (h : MapIs w B n D) (K : ByteArray) (hK : K.size ≤ 100) (hn : has D (.string K.data.toList) = false) :
    (Instr.lookup 45 (.map (some B)) (.string K) true).run Tryd.prog w = .ok (.tuple #[.string ⟨#[]⟩, .bool false]) w := by
  obtain ⟨v, ps, hr, hv⟩ := World.ownsMap.look_ok h strKeyed Tryd.underlying45 (z := .string ⟨#[]⟩) (Tryd.zeroValue9 _) (plainElem_string Tryd.u_string (by decide)) (key_lit K hK)
  rw [Go.Maps.atKey_of_not_has hn] at hv
  obtain ⟨s, rfl, hs, _⟩ := plainElem_string_inv Tryd.u_string hv
  have e2 : (⟨#[]⟩ : ByteArray).data.toList = s.data.toList := Lit.string.inj (DataW.lit.inj (Prod.mk.inj hs).1)
  have e3 : (⟨#[]⟩ : ByteArray) = s := byteArray_eq e2
  rw [← e3, hn] at hr
  exact hr
/-- 'm[k] = v', the name as it stands. -/
theorem MapIs.putAs {w : World} {B n : Nat} {D : DataW Unit} (h : MapIs w B n D) (hn : n < 1000) (kv : Kv) (hk : kv.key.size ≤ 100) (hv : kv.val.size ≤ 300) :
    ∃ w', (Instr.mapUpdate 45 (.map (some B)) (.string kv.key) (.string kv.val)).run Tryd.prog w = .ok () w' ∧ MapIs w' B (n + 1) (putX D kv) ∧ w.grownBy w' (some B) := by
  have hvs : kv.val.size ≤ maxLen := by unfold maxLen; omega
  exact World.ownsMap.update h strKeyed Tryd.underlying45 (by unfold maxLen; omega) (key_lit kv.key hk) (plainElem_string Tryd.u_string hvs)

/-- The closure that FormatMetadata hands to 'made'. -/
theorem FormatMetadata_f (p B n : Nat) (kvs : List Kv) (w : World) (hp : Blk w p 45 #[.map (some B)]) (hm : MapIs w B n (mdX kvs)) (hn : n ≤ 10) (hg : KvGood kvs) (hu : ∀ f ∈ kvs, usualK f) :
    Calls Tryd.prog 26 #[.pointer (some ⟨p, 0, none⟩)] w (Makes w (encKVs kvs).length (encKVs kvs)) := by
  have c0 := hp.cell0
  go_enter Tryd.func26, Tryd.ntmps26
  go_wp2_with fail
  refine (MarshalZMTP_ok B n kvs w hm hn hg hu).mono ?_
  rintro e w1 ⟨A, c, rfl, hr, hb⟩
  go_wp2_with fail
  go_ret2
  exact ⟨A, c, rfl, hr, hb⟩

theorem ofStr_run (s : ByteArray) (w : World) : ∃ c w', (convert 9 30 (.string s)).run Tryd.prog w = .ok (.slice (some ⟨w.heap.size, 0, none⟩) s.size c) w' ∧ RB w' w'.heap.size (some ⟨w.heap.size, 0, none⟩) s.size s.data.toList ∧ w.grownBy w' none := by
  have hr := run_bytes_of_string (P := Tryd.prog) w 9 30 5 s Tryd.u_string Tryd.u_bytes Tryd.u_u8
  refine ⟨_, _, hr, ⟨by simp, fun hn => ⟨_, rfl, by simp, fun j u hu => ?_⟩⟩, grownBy_alloc (grownBy_drew (grownBy_refl w none)) _⟩
  have hj : j < s.data.size := by
    have := (List.getElem?_eq_some_iff.1 hu).1
    simpa using this
  have hb := bytesRow_at s (grownCap w s.size 0 5) j hj
  rw [bv_get (by simpa using hj)] at hu
  have hc := World.cell?_alloc_mark w.drew (bytesRow s (grownCap w s.size 0 5)) 5 ((bytesRow s (grownCap w s.size 0 5)).size, (bytesRow s (grownCap w s.size 0 5)).size + 1) j
  rw [← hu]
  have e : (⟨w.heap.size, 0, none⟩ : Addr).add j = ⟨w.heap.size, j, none⟩ := by rw [Addr.add_lit]; simp
  rw [e]
  refine hc.trans (hb.trans ?_)
  simp

set_option maxRecDepth 100000 in
set_option maxHeartbeats 4000000 in
theorem FormatMetadata_ok (A : Option Addr) (n c : Nat) (kvs : List Kv) (w : World) (hr : KvS w w.heap.size A n kvs) (hg : KvGood kvs) (hu : ∀ f ∈ kvs, usualK f) :
    Calls Tryd.prog 13 #[.slice A n c] w fun e w' => ∃ A' c', e = .returned (.tuple #[.slice A' (encKVs kvs).length c', .bool true]) ∧ OB w' w.heap.size A' (encKVs kvs).length c' (encKVs kvs) ∧ Below w.heap.size w w' := by
  have hmm : ∀ t W, (Instr.makeMap t none).run Tryd.prog W = .ok (.map (some W.heap.size)) (W.alloc (.map #[] 0)) := fun _ _ => rfl
  have hmf : ∀ (fn : Fn) (first cap : Array Value) (w : World), (Instr.makeFunc fn first cap).run Tryd.prog w = .ok (.func fn first cap) w := fun _ _ _ _ => rfl
  have hp0 := Blk.new (w.alloc (.map #[] 0)) 45 #[.map (some w.heap.size)]
  rw [World.size_alloc] at hp0
  have hm0 : MapIs ((w.alloc (.map #[] 0)).alloc (.cells #[.map (some w.heap.size)] 45)) w.heap.size 0 (.map []) := World.ownsMap.alloc (World.ownsMap_made w Tryd.prog 9 (plainElem Tryd.prog 9)) _
  have hb0 : Below w.heap.size w ((w.alloc (.map #[] 0)).alloc (.cells #[.map (some w.heap.size)] 45)) := ((Below.refl _ _).alloc (Nat.le_refl _) _).alloc (by simp) _
  have hnl : kvs.length = n := hr.len
  have hk10 := (good_parts hg).2
  have HG := Lib.hid (⟨hg, hu, hr, hnl⟩ : _ ∧ _ ∧ _ ∧ _)
  have HW := Lib.hid (⟨hp0, hm0, hb0⟩ : _ ∧ _ ∧ _)
  have hn10 : n ≤ 10 := by omega
  clear hg hu hr hp0 hm0 hb0 hnl hk10
  go_enter Tryd.func13, Tryd.ntmps13
  go_wp2_with fail
  go_loopw [12] (fun i wr => ∃ k : Nat, k ≤ n ∧ i = .int .i64 k ∧ Hid (Blk wr (w.heap.size + 1) 45 #[.map (some w.heap.size)] ∧ MapIs wr w.heap.size k (mdX (kvs.take k)) ∧ Below w.heap.size w wr)) (fun i _ => n - (intOf i).toNat)
  case atStart => exact ⟨0, Nat.zero_le _, rfl, HW⟩
  case round =>
    obtain ⟨k, hk, rfl, hst⟩ := hrel
    by_cases hkn : k < n
    · obtain ⟨ad, f, rfl, hadb, hf, h1, h2⟩ := (HG.out.2.2.1.after hst.out.2.2).at_ hkn
      have hmem := List.mem_of_getElem? hf
      have hfit := (good_parts HG.out.1).1 f hmem
      have hasc : f.key.data.toList.all asciiB = true := good_ascii HG.out.1 f hmem
      have hbw := hst.out.2.2.size
      have g0 := (Blk.new wr 36 #[.string f.key, .string f.val]).cell 0
      have g1 := (Blk.new wr 36 #[.string f.key, .string f.val]).cell 1
      simp only [List.getElem?_toArray, List.getElem?_cons_zero, List.getElem?_cons_succ] at g0 g1
      have hp2 := hst.out.1.alloc (.cells #[.string f.key, .string f.val] 36)
      have hm2 : MapIs (wr.alloc (.cells #[.string f.key, .string f.val] 36)) w.heap.size k (mdX (kvs.take k)) := World.ownsMap.alloc hst.out.2.1 _
      have hpc2 := hp2.cell0
      have lk := hm2.lookNo f.key hfit.2.1 (mdX_new (good_apart HG.out.1) hf)
      obtain ⟨cc, wc, hconv, hrc, hgc⟩ := ofStr_run f.key (wr.alloc (.cells #[.string f.key, .string f.val] 36))
      have hbc : Below (wr.alloc (.cells #[.string f.key, .string f.val] 36)).heap.size (wr.alloc (.cells #[.string f.key, .string f.val] 36)) wc := below_of_grownBy hgc
      have k0 := ((Blk.new wr 36 #[.string f.key, .string f.val]).after hbc (Nat.le_refl _)).cell 0
      have k1 := ((Blk.new wr 36 #[.string f.key, .string f.val]).after hbc (Nat.le_refl _)).cell 1
      simp only [List.getElem?_toArray, List.getElem?_cons_zero, List.getElem?_cons_succ] at k0 k1
      have hpc := (hp2.after hbc (Nat.le_refl _)).cell0
      have hm3 : MapIs wc w.heap.size k (mdX (kvs.take k)) := hm2.apart (ps := []) (Apart.of_below hbc) (by simp)
      obtain ⟨w4, hput, hm4, hg4⟩ := hm3.putAs (by omega) f hfit.2.1 hfit.2.2
      have htk : kvs.take (k + 1) = kvs.take k ++ [f] := by rw [List.take_add_one, hf]; rfl
      have hst4 : Blk w4 (w.heap.size + 1) 45 #[.map (some w.heap.size)] ∧ MapIs w4 w.heap.size (k + 1) (mdX (kvs.take (k + 1))) ∧ Below w.heap.size w w4 := by
        refine ⟨(hp2.after hbc (Nat.le_refl _)).grown hg4 (by simp), by rw [htk, mdX_snoc]; exact hm4, ?_⟩
        exact ((hst.out.2.2.alloc hbw _).trans (hbc.mono (by simp; omega))).grown hg4 (by have := hbc.size; simp at this; omega) (fun j hj => by cases hj; exact Nat.le_refl _)
      rw [World.size_alloc] at hrc
      have HC := Lib.hid (⟨hrc, hst4, hasc, hfit⟩ : _ ∧ _ ∧ _ ∧ _)
      clear hmem hfit hasc hf hadb hp2 hm2 hgc hbc hm3 hm4 hg4 hst4 htk hrc hst
      go_wp2_with fail
      refine (ascii_any (some ⟨wr.heap.size + 1, 0, none⟩) f.key.size cc wc.heap.size f.key.data.toList wc HC.out.1 (by have := HC.out.2.2.2.2.1; omega)).mono ?_
      rintro e w5 ⟨rfl, rfl⟩
      rw [HC.out.2.2.1]
      go_wp2_with fail
      go_roundw
      case rel => exact ⟨k + 1, by omega, by go_num, Lib.hid HC.out.2.1⟩
      case measure => simp [intOf]; omega
    · have hke : k = n := by omega
      subst hke
      obtain ⟨hp, hm, hb⟩ := hst.out
      rw [List.take_of_length_le (by rw [HG.out.2.2.2]; exact Nat.le_refl _)] at hm
      have HM := Lib.hid (⟨hp, hm, hb⟩ : _ ∧ _ ∧ _)
      have hin : ∀ (caps : Array Value) (W : World), (callFunc 26 caps).run Tryd.prog W = .ok (.enter 26 caps) W := fun _ _ => by simp [go_sem]
      have HIN := Lib.hid hin
      clear hp hm hb hst hin
      go_wp2_with fail
      refine (made_any 26 #[.pointer (some ⟨w.heap.size + 1, 0, none⟩)] (encKVs kvs).length (encKVs kvs) wr (HIN.out _) (fun W hW => FormatMetadata_f (w.heap.size + 1) w.heap.size k kvs W (HM.out.1.after hW (Nat.le_refl _)) (HM.out.2.1.apart (ps := []) (Apart.of_below hW) (by simp)) hn10 HG.out.1 HG.out.2.1) ?_).mono ?_
      · have h1 := encKVs_le (good_parts HG.out.1).1
        have h2 := (good_parts HG.out.1).2
        omega
      rintro e w6 ⟨A', c', rfl, ho, hb6⟩
      have HF := Lib.hid (⟨ho.more HM.out.2.2.size, HM.out.2.2.trans (hb6.mono HM.out.2.2.size)⟩ : _ ∧ _)
      clear ho hb6
      go_wp2_with fail
      go_ret2
      exact ⟨A', c', rfl, HF.out.1, HF.out.2⟩
end Go.Proofs.YtkpcepdalegmmaaDoor
