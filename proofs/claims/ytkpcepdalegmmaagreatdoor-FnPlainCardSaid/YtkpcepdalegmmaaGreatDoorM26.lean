/- Parts of a proof, laid behind one another: Properties: MarshalZMTP of the usual properties. -/
import Derived.Test.YtkpcepdalegmmaaGreatDoorM25
import Derived.Test.YtkpcepdalegmmaaGreatDoorM13
import Derived.Test.YtkpcepdalegmmaaGreatDoorM17
/-! Properties: MarshalZMTP of the usual properties. -/
namespace Go.Proofs.YtkpcepdalegmmaaGreatDoor
open Go.RowKit
open Go.Maps (has IsMap)

theorem ToLower_ok (K : ByteArray) (w : World) (hK : K.size ≤ 100) (ha : K.data.toList.all (fun b => decide (b.toNat < 128)) = true) :
    Calls Tryz.prog 35 #[.string K] w fun e w' => e = .returned (.string ⟨(lowK K).toArray⟩) ∧ Below w.heap.size w w' := by
  refine (Tryz.strings_ToLower_ascii K w (by omega) (fun j b hb => ?_)).mono ?_
  · have := List.all_eq_true.1 ha b (List.mem_of_getElem? hb)
    simpa using this
  · rintro e w' h
    exact h
/-- The names that have come, in small letters, lie in a set. -/
def SetIs (w : World) (B n : Nat) (D : DataW Unit) : Prop := w.ownsMap Tryz.prog 9 unitElem B n D
section
variable {w w' : World} {B n : Nat} {D : DataW Unit}
theorem SetIs.apart {ps : List Nat} (h : SetIs w B n D) (ha : Apart ps w w') (hn : B ∉ ps) : SetIs w' B n D := by
  obtain ⟨es, clock, hb, r⟩ := h
  exact ⟨es, clock, (ha.block B (Array.getElem?_eq_some_iff.1 hb).1 hn).trans hb, r⟩
theorem SetIs.lt (h : SetIs w B n D) : B < w.heap.size := by
  obtain ⟨es, clock, hb, r⟩ := h
  exact (Array.getElem?_eq_some_iff.1 hb).1
theorem key_lit (K : ByteArray) (h : K.size ≤ 100) : keyOf Tryz.prog 9 (.string K) = some (.string K.data.toList) := Go.WideMaps.keyOf_string_mk Tryz.u_string (by unfold maxLen; omega)
/-- 'm[k]' of a map of strings. -/
theorem MapIs.look (h : MapIs w B n D) (K : ByteArray) (hK : K.size ≤ 100) (V : ByteArray) (hat : ∀ z, D.atKey (.string K.data.toList) z = .lit (.string V.data.toList)) :
    (Instr.lookup 55 (.map (some B)) (.string K) false).run Tryz.prog w = .ok (.string V) w := by
  obtain ⟨v, ps, hr, hv⟩ := World.ownsMap.lookup h strKeyed Tryz.underlying55 (z := .string ⟨#[]⟩) (Tryz.zeroValue9 _) (plainElem_string Tryz.u_string (by decide)) (key_lit K hK)
  rw [hat] at hv
  obtain ⟨s, rfl, hs, _⟩ := plainElem_string_inv Tryz.u_string hv
  have e1 := (Prod.mk.inj hs).1
  have e2 : V.data.toList = s.data.toList := Lit.string.inj (DataW.lit.inj e1)
  have e3 : V = s := byteArray_eq e2
  rw [e3]
  exact hr
/-- '_, ok := m[k]' of a set that lacks k. -/
theorem SetIs.look (h : SetIs w B n D) (K : ByteArray) (hK : K.size ≤ 100) (hn : has D (.string K.data.toList) = false) :
    (Instr.lookup 62 (.map (some B)) (.string K) true).run Tryz.prog w = .ok (.tuple #[.agg #[], .bool false]) w := by
  obtain ⟨v, ps, hr, hv⟩ := World.ownsMap.look_ok h strKeyed Tryz.underlying62 (z := .agg #[]) (Tryz.zeroValue95 _) unitElem_mk (key_lit K hK)
  obtain ⟨rfl, _⟩ := unitElem_inv hv
  rw [hn] at hr
  exact hr
/-- 'm[k] = struct{}{}'. -/
theorem SetIs.put (h : SetIs w B n D) (hn : n < 1000) (K : ByteArray) (hK : K.size ≤ 100) :
    ∃ w', (Instr.mapUpdate 62 (.map (some B)) (.string K) (.agg #[])).run Tryz.prog w = .ok () w' ∧ SetIs w' B (n + 1) (D.put (.string K.data.toList) (.agg [])) ∧ w.grownBy w' (some B) :=
  World.ownsMap.update h strKeyed Tryz.underlying62 (by unfold maxLen; omega) (key_lit K hK) unitElem_mk
end
theorem encKVs_snoc (l : List Kv) (f : Kv) : encKVs (l ++ [f]) = encKVs l ++ encKV f := by simp [encKVs]
theorem propL_usual {f : Kv} (h : usualK f) : propL f.key f.val = encKV f := by
  unfold propL
  rcases h with e | e <;> rw [e]
  · rw [titleS_id, ← e]
  · rw [titleS_st, ← e]
/-- How far MarshalZMTP has come. -/
def MzSt (W1 : World) (q k : Nat) (kvs : List Kv) (A : Option Addr) (m c : Nat) (wr : World) : Prop :=
  Blk wr q 91 #[.slice A m c] ∧ OB wr W1.heap.size A m c (encKVs (kvs.take k)) ∧ SetIs wr (q + 1) k (lowD (kvs.take k)) ∧ Apart [q, q + 1] W1 wr
/-- What a name is, where only the usual ones come. -/
def KeyOk (K : ByteArray) : Prop := 0 < K.size ∧ K.size ≤ 100 ∧ K.data.toList.all (fun b => decide (b.toNat < 128)) = true
theorem usual_keyOk {f : Kv} (h : usualK f) : KeyOk f.key := by
  rcases h with e | e <;> rw [e]
  · exact ⟨by decide +kernel, by decide +kernel, by decide +kernel⟩
  · exact ⟨by decide +kernel, by decide +kernel, by decide +kernel⟩
theorem low_size (K : ByteArray) : (⟨(lowK K).toArray⟩ : ByteArray).size = K.size := by
  show (lowK K).toArray.size = K.data.size
  simp [lowK, Go.Lib.toLowerA]

set_option maxRecDepth 100000 in
set_option maxHeartbeats 4000000 in
theorem MarshalZMTP_ok (B n : Nat) (kvs : List Kv) (w : World) (hm : MapIs w B n (mdX kvs)) (hn : n ≤ 10) (hg : KvGood kvs) (hu : ∀ f ∈ kvs, usualK f) :
    Calls Tryz.prog 20 #[.map (some B)] w (Makes w (encKVs kvs).length (encKVs kvs)) := by
  have hmm : ∀ t W, (Instr.makeMap t none).run Tryz.prog W = .ok (.map (some W.heap.size)) (W.alloc (.map #[] 0)) := fun _ _ => rfl
  have hq0 := (Blk.new w 91 #[.slice none 0 0]).alloc (.map #[] 0)
  have hs0 : SetIs ((w.alloc (.cells #[.slice none 0 0] 91)).alloc (.map #[] 0)) (w.heap.size + 1) 0 (.map []) := by
    have h := World.ownsMap_made (w.alloc (.cells #[.slice none 0 0] 91)) Tryz.prog 9 (unitElem (H := Unit))
    rw [World.size_alloc] at h
    exact h
  have hm0 : MapIs ((w.alloc (.cells #[.slice none 0 0] 91)).alloc (.map #[] 0)) B n (mdX kvs) := World.ownsMap.alloc (World.ownsMap.alloc hm _) _
  have hb0 : Below w.heap.size w ((w.alloc (.cells #[.slice none 0 0] 91)).alloc (.map #[] 0)) := ((Below.refl _ _).alloc (Nat.le_refl _) _).alloc (by simp) _
  have hz0 : ((w.alloc (.cells #[.slice none 0 0] 91)).alloc (.map #[] 0)).heap.size = w.heap.size + 2 := by simp
  have hBl := hm.lt
  have hk10 := (good_parts hg).2
  have HG := Lib.hid (⟨hg, hu⟩ : _ ∧ _)
  have HW := Lib.hid (⟨hq0, hs0, hm0, hb0, hz0⟩ : _ ∧ _ ∧ _ ∧ _ ∧ _)
  clear hq0 hs0 hm0 hb0 hz0 hg hu hm
  go_enter Tryz.func20, Tryz.ntmps20
  go_wp2_with fail
  generalize ((w.alloc (.cells #[.slice none 0 0] 91)).alloc (.map #[] 0)) = W at *
  refine (sortedKeys_ok B n kvs W HW.out.2.2.1 (good_apart HG.out.1) (usual_le HG.out.1 HG.out.2) hn).mono ?_
  rintro e w1 ⟨A, c, rfl, ho, hb⟩
  obtain ⟨hq0, hs0, hm0, hb0, hz0⟩ := HW.out
  have hr1 : Reads w1 w1.heap.size 1 A kvs.length (kvs.map fun f => Value.string f.key) := Reads.of_own ho
  have hA1 : ∀ ad, A = some ad → w.heap.size + 2 ≤ ad.block := fun ad e => by
    have := own_base' ho (g := ad.block) (by rw [e]; rfl)
    omega
  have hb1 : Below w.heap.size w w1 := hb0.trans (hb.mono (by omega))
  have hm1 : MapIs w1 B n (mdX kvs) := hm0.apart (ps := []) (Apart.of_below hb) (by simp)
  have hsz1 : w.heap.size + 2 ≤ w1.heap.size := by have := hb.size; omega
  have hst1 : MzSt w1 w.heap.size 0 kvs none 0 0 w1 := ⟨hq0.below hb (by omega), OB.nil_ _ _, hs0.apart (ps := []) (Apart.of_below hb) (by simp), Apart.refl _ _⟩
  have H1 := Lib.hid (⟨hr1, hA1, hb1, hm1⟩ : _ ∧ _ ∧ _ ∧ _)
  have HS := Lib.hid hst1
  clear hq0 hs0 hm0 hb0 hz0 hr1 hA1 hb1 hm1 hst1 ho hb HW
  go_wp2_with fail
  go_loopw [19] (fun i wr => ∃ (k m c' : Nat) (A' : Option Addr), k ≤ kvs.length ∧ i = .int .i64 k ∧ Hid (MzSt w1 w.heap.size k kvs A' m c' wr)) (fun i _ => kvs.length - (intOf i).toNat)
  case atStart => exact ⟨0, 0, 0, none, Nat.zero_le _, rfl, HS⟩
  case round =>
    obtain ⟨k, m, c', A', hk, rfl, hst⟩ := hrel
    by_cases hlt : k < kvs.length
    · obtain ⟨f, hf⟩ : ∃ f, kvs[k]? = some f := ⟨kvs[k], List.getElem?_eq_getElem hlt⟩
      have hmem := List.mem_of_getElem? hf
      have hus := HG.out.2 f hmem
      obtain ⟨ad, u, rfl, hadl, hxu, hcw⟩ := H1.out.1.at_ hlt
      have hu : u = .string f.key := by
        rw [List.getElem?_map, hf] at hxu
        exact (Option.some.inj hxu).symm
      subst hu
      have hadq := H1.out.2.1 ad rfl
      have hcell : wr.cell? (ad.add k) = some (.string f.key) := (hst.out.2.2.2.cell (p := ad.add k) (by rw [block_of_add]; exact hadl) (by rw [block_of_add]; simp; omega)).trans hcw
      have hmr : MapIs wr B n (mdX kvs) := H1.out.2.2.2.apart hst.out.2.2.2 (by simp; omega)
      have hko := usual_keyOk hus
      have lk := hmr.look f.key hko.2.1 f.val (mdX_at (good_apart HG.out.1) hmem)
      have hfit := (good_parts HG.out.1).1 f hmem
      have hnew := lowD_new HG.out.1 HG.out.2 hf
      have htk : kvs.take (k + 1) = kvs.take k ++ [f] := by rw [List.take_add_one, hf]; rfl
      have hTL : ∀ V : World, Calls Tryz.prog 35 #[.string f.key] V fun e w' => e = .returned (.string ⟨(lowK f.key).toArray⟩) ∧ Below V.heap.size V w' := fun V => ToLower_ok f.key V hko.2.1 hko.2.2
      have hls : (lowK f.key).toArray.size ≤ 100 := by have := low_size f.key; have h2 := hko.2.1; rw [← this] at h2; exact h2
      have hpl := propL_usual hus
      have hln : (encKVs (kvs.take k)).length ≤ 4050 := by
        have h1 := encKVs_le (fs := kvs.take k) (fun g hg => (good_parts HG.out.1).1 g (List.mem_of_mem_take hg))
        rw [List.length_take] at h1
        omega
      have hmln : m = (encKVs (kvs.take k)).length := (hst.out.2.1).len.symm
      have HK := Lib.hid (⟨htk, hTL, hpl, hfit, hln, hmln, hnew⟩ : _ ∧ _ ∧ _ ∧ _ ∧ _ ∧ _ ∧ _)
      obtain ⟨K, V⟩ := f
      simp only at *
      clear htk hTL hpl hfit hln hmln hnew hmr hf hmem hxu hcw hadl hko
      rcases hus with e | e
      · simp only at e
        subst e
        unfold idS at *
        go_wp2_with fail
        refine (HK.out.2.1 _).mono ?_
        rintro e w2 ⟨rfl, hb2⟩
        obtain ⟨L, hL⟩ : ∃ L : ByteArray, L = ⟨(lowK ⟨#[73, 100, 101, 110, 116, 105, 116, 121]⟩).toArray⟩ := ⟨_, rfl⟩
        rw [← hL]
        have hLs : L.size ≤ 100 := by rw [hL]; exact hls
        have hLl : L.data.toList = lowK ⟨#[73, 100, 101, 110, 116, 105, 116, 121]⟩ := by rw [hL]
        have hap2 : Apart [w.heap.size, w.heap.size + 1] w1 w2 := hst.out.2.2.2.then_below hb2
        have hse2 : SetIs w2 (w.heap.size + 1) k (lowD (kvs.take k)) := hst.out.2.2.1.apart (ps := []) (Apart.of_below hb2) (by simp)
        have hq2 := hst.out.1.after hb2 (Nat.le_refl _)
        have ho2 := (Apart.of_below (ps := []) hb2).ob hst.out.2.1 (fun _ _ => by simp)
        have hkey := key_lit L hLs
        have hnew : has (lowD (kvs.take k)) (.string L.data.toList) = false := by rw [hLl]; exact HK.out.2.2.2.2.2.2
        obtain ⟨w3, hput, hse3, hg3⟩ := SetIs.put (World.ownsMap.alloc hse2 (.cells #[] 95)) (by omega) L hLs
        have a3 : Apart [w.heap.size + 1] w2 w3 := ((Apart.refl _ _).alloc _).trans (Apart.of_grown hg3 (fun g e => .inl (by simpa using e.symm)))
        have hap3 : Apart [w.heap.size, w.heap.size + 1] w1 w3 := hap2.trans (a3.mono (fun _ _ h => List.mem_cons_of_mem _ h))
        have hA'b : ∀ ad, A' = some ad → w1.heap.size ≤ ad.block := fun ad e => (hst.out.2.1.block e).1
        have hq3 := a3.blk hq2 (by simp)
        have ho3 := a3.ob ho2 (fun ad e => by have := hA'b ad e; simp; omega)
        rw [hLl] at hse3
        have H3 := Lib.hid (⟨hap3, hq3, ho3, hse3, hA'b⟩ : _ ∧ _ ∧ _ ∧ _ ∧ _)
        have lk2 := hse2.look L hLs hnew
        clear hcell lk hls hb2 hL hap2 hq2 ho2 hLl hse2 hnew hkey hse3 hg3 a3 hap3 hq3 ho3 hA'b
        go_wp2_with fail
        obtain ⟨hap3, hq3, ho3, hse3, hA'b⟩ := H3.out
        obtain ⟨htk, _, hpl, hfit, hln, hmln, _⟩ := HK.out
        have hsz3 : w1.heap.size ≤ w3.heap.size := hap3.size
        refine (property_ok w.heap.size w1.heap.size m c' A' _ ⟨#[73, 100, 101, 110, 116, 105, 116, 121]⟩ V w3 hq3 ho3 hsz3 (by omega) (by decide) hfit.2.2).mono ?_
        rintro e w4 ⟨rfl, A5, c5, wu, wv, hov, hbu, hguv, rfl⟩
        have aU : Apart (A'.map (·.block)).toList w3 wv := (Apart.of_below hbu).trans (Apart.of_grown hguv (fun g e => .inl (by simp [e])))
        have hlow : ∀ g, g < w1.heap.size → g ∉ (A'.map (·.block)).toList := fun g hg hm => by
          cases A' with
          | none => simp at hm
          | some ad2 =>
            have := hA'b ad2 rfl
            simp at hm
            omega
        have hst5 : MzSt w1 w.heap.size (k + 1) kvs A5 (m + (5 + (⟨#[73, 100, 101, 110, 116, 105, 116, 121]⟩ : ByteArray).size + V.size)) c5 (wv.setCell ⟨w.heap.size, 0, none⟩ (.slice A5 (m + (5 + (⟨#[73, 100, 101, 110, 116, 105, 116, 121]⟩ : ByteArray).size + V.size)) c5)) := by
          refine ⟨(aU.blk hq3 (hlow _ (by omega))).setN _, ?_, ?_, ?_⟩
          · rw [htk, encKVs_snoc, ← hpl]
            exact hov.setN (by omega) _
          · rw [htk, lowD_snoc]
            exact (hse3.apart aU (hlow _ (by omega))).apart (ps := [w.heap.size]) ((Apart.refl _ _).setN (.inl (by simp)) _) (by simp)
          · exact (hap3.viaB aU (fun i hi hm => absurd hm (hlow i hi))).setN (.inl (by simp)) _
        have H5 := Lib.hid hst5
        clear hap3 hq3 ho3 hse3 hA'b htk hpl hfit hln hmln hsz3 hov hbu hguv aU hlow hst5
        generalize (wv.setCell ⟨w.heap.size, 0, none⟩ (.slice A5 (m + (5 + (⟨#[73, 100, 101, 110, 116, 105, 116, 121]⟩ : ByteArray).size + V.size)) c5)) = w5 at *
        go_wp2_with fail
        go_roundw
        case rel => exact ⟨k + 1, _, c5, A5, by omega, by go_num, H5⟩
        case measure => simp [intOf]; omega
      · simp only at e
        subst e
        unfold stS at *
        go_wp2_with fail
        refine (HK.out.2.1 _).mono ?_
        rintro e w2 ⟨rfl, hb2⟩
        obtain ⟨L, hL⟩ : ∃ L : ByteArray, L = ⟨(lowK ⟨#[83, 111, 99, 107, 101, 116, 45, 84, 121, 112, 101]⟩).toArray⟩ := ⟨_, rfl⟩
        rw [← hL]
        have hLs : L.size ≤ 100 := by rw [hL]; exact hls
        have hLl : L.data.toList = lowK ⟨#[83, 111, 99, 107, 101, 116, 45, 84, 121, 112, 101]⟩ := by rw [hL]
        have hap2 : Apart [w.heap.size, w.heap.size + 1] w1 w2 := hst.out.2.2.2.then_below hb2
        have hse2 : SetIs w2 (w.heap.size + 1) k (lowD (kvs.take k)) := hst.out.2.2.1.apart (ps := []) (Apart.of_below hb2) (by simp)
        have hq2 := hst.out.1.after hb2 (Nat.le_refl _)
        have ho2 := (Apart.of_below (ps := []) hb2).ob hst.out.2.1 (fun _ _ => by simp)
        have hkey := key_lit L hLs
        have hnew : has (lowD (kvs.take k)) (.string L.data.toList) = false := by rw [hLl]; exact HK.out.2.2.2.2.2.2
        obtain ⟨w3, hput, hse3, hg3⟩ := SetIs.put (World.ownsMap.alloc hse2 (.cells #[] 95)) (by omega) L hLs
        have a3 : Apart [w.heap.size + 1] w2 w3 := ((Apart.refl _ _).alloc _).trans (Apart.of_grown hg3 (fun g e => .inl (by simpa using e.symm)))
        have hap3 : Apart [w.heap.size, w.heap.size + 1] w1 w3 := hap2.trans (a3.mono (fun _ _ h => List.mem_cons_of_mem _ h))
        have hA'b : ∀ ad, A' = some ad → w1.heap.size ≤ ad.block := fun ad e => (hst.out.2.1.block e).1
        have hq3 := a3.blk hq2 (by simp)
        have ho3 := a3.ob ho2 (fun ad e => by have := hA'b ad e; simp; omega)
        rw [hLl] at hse3
        have H3 := Lib.hid (⟨hap3, hq3, ho3, hse3, hA'b⟩ : _ ∧ _ ∧ _ ∧ _ ∧ _)
        have lk2 := hse2.look L hLs hnew
        clear hcell lk hls hb2 hL hap2 hq2 ho2 hLl hse2 hnew hkey hse3 hg3 a3 hap3 hq3 ho3 hA'b
        go_wp2_with fail
        obtain ⟨hap3, hq3, ho3, hse3, hA'b⟩ := H3.out
        obtain ⟨htk, _, hpl, hfit, hln, hmln, _⟩ := HK.out
        have hsz3 : w1.heap.size ≤ w3.heap.size := hap3.size
        refine (property_ok w.heap.size w1.heap.size m c' A' _ ⟨#[83, 111, 99, 107, 101, 116, 45, 84, 121, 112, 101]⟩ V w3 hq3 ho3 hsz3 (by omega) (by decide) hfit.2.2).mono ?_
        rintro e w4 ⟨rfl, A5, c5, wu, wv, hov, hbu, hguv, rfl⟩
        have aU : Apart (A'.map (·.block)).toList w3 wv := (Apart.of_below hbu).trans (Apart.of_grown hguv (fun g e => .inl (by simp [e])))
        have hlow : ∀ g, g < w1.heap.size → g ∉ (A'.map (·.block)).toList := fun g hg hm => by
          cases A' with
          | none => simp at hm
          | some ad2 =>
            have := hA'b ad2 rfl
            simp at hm
            omega
        have hst5 : MzSt w1 w.heap.size (k + 1) kvs A5 (m + (5 + (⟨#[83, 111, 99, 107, 101, 116, 45, 84, 121, 112, 101]⟩ : ByteArray).size + V.size)) c5 (wv.setCell ⟨w.heap.size, 0, none⟩ (.slice A5 (m + (5 + (⟨#[83, 111, 99, 107, 101, 116, 45, 84, 121, 112, 101]⟩ : ByteArray).size + V.size)) c5)) := by
          refine ⟨(aU.blk hq3 (hlow _ (by omega))).setN _, ?_, ?_, ?_⟩
          · rw [htk, encKVs_snoc, ← hpl]
            exact hov.setN (by omega) _
          · rw [htk, lowD_snoc]
            exact (hse3.apart aU (hlow _ (by omega))).apart (ps := [w.heap.size]) ((Apart.refl _ _).setN (.inl (by simp)) _) (by simp)
          · exact (hap3.viaB aU (fun i hi hm => absurd hm (hlow i hi))).setN (.inl (by simp)) _
        have H5 := Lib.hid hst5
        clear hap3 hq3 ho3 hse3 hA'b htk hpl hfit hln hmln hsz3 hov hbu hguv aU hlow hst5
        generalize (wv.setCell ⟨w.heap.size, 0, none⟩ (.slice A5 (m + (5 + (⟨#[83, 111, 99, 107, 101, 116, 45, 84, 121, 112, 101]⟩ : ByteArray).size + V.size)) c5)) = w5 at *
        go_wp2_with fail
        go_roundw
        case rel => exact ⟨k + 1, _, c5, A5, by omega, by go_num, H5⟩
        case measure => simp [intOf]; omega
    · have hke : k = kvs.length := by omega
      subst hke
      obtain ⟨hq, hob, _, hap⟩ := hst.out
      rw [List.take_length] at hob
      have hml : m = (encKVs kvs).length := hob.len.symm
      have hbz : Below w.heap.size w wr := H1.out.2.2.1.trans (hap.below (by omega) (by simp))
      have hF : Makes w (encKVs kvs).length (encKVs kvs) (.returned (.tuple #[.slice A' m c', .nilIface])) wr := ⟨A', c', by rw [hml], by rw [← hml]; exact hob.rb, hbz⟩
      have HF := Lib.hid hF
      have HQ := Lib.hid hq
      clear hq hob hap hml hbz hF hst
      go_wp2_with fail
      refine (Bytes_ok w.heap.size m c' A' wr HQ.out).mono ?_
      rintro e w6 ⟨rfl, rfl⟩
      go_wp2_with fail
      go_ret2
      exact HF.out
end Go.Proofs.YtkpcepdalegmmaaGreatDoor
