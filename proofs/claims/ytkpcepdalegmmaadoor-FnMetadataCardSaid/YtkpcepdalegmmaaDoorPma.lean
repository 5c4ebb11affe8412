/- Properties: impl.ParseMetadata of whole properties. -/
import Derived.Test.YtkpcepdalegmmaaDoorPmo
import Derived.Test.YtkpcepdalegmmaaDoorSortf
namespace Go.Proofs.YtkpcepdalegmmaaDoor
open Go.RowKit

theorem be4At_enc {l : List UInt8} {e v : Nat} (h0 : l.getD e 0 = UInt8.ofNat (v / 16777216)) (h1 : l.getD (e + 1) 0 = UInt8.ofNat (v / 65536)) (h2 : l.getD (e + 2) 0 = UInt8.ofNat (v / 256)) (h3 : l.getD (e + 3) 0 = UInt8.ofNat v) (hv : v ≤ 300) : be4At l e = v := by
  unfold be4At
  rw [h0, h1, h2, h3]
  have e : ∀ y : Nat, (UInt8.ofNat y).toNat = y % 256 := fun y => by simp
  rw [e, e, e, e]
  omega
/-- The names are of ASCII, as far as one reads. -/
theorem named_ok (A : Option Addr) (n c B : Nat) (l : List UInt8) (kvs : List Kv) (w : World) (hr : RB w B A n l) (hn : n ≤ 2147483647) (hc : n ≤ c) (hT : l = encKVs kvs) (hf : ∀ kv ∈ kvs, kvFit kv) (ha : ∀ kv ∈ kvs, kv.key.data.toList.all asciiB = true) :
    Calls Tryd.prog 18 #[.slice A n c] w fun e w' => e = .returned (.bool true) ∧ w = w' := by
  have hl := hr.len
  refine (named_any (fun k => ∃ j, j ≤ kvs.length ∧ k = (encKVs (kvs.take j)).length) False A n c B l w hr hn hc ⟨0, Nat.zero_le _, rfl⟩ ?_).mono ?_
  · rintro k hk ⟨j, hj, rfl⟩
    have hjl : j < kvs.length := by
      by_cases h : j < kvs.length
      · exact h
      · rw [List.take_of_length_le (by omega), ← hT] at hk
        omega
    have hkv : kvs[j]? = some kvs[j] := List.getElem?_eq_getElem hjl
    generalize kvs[j] = kv at hkv
    have hmem := List.mem_of_getElem? hkv
    have hfit := hf kv hmem
    have hT1 : l.take n = encKVs kvs ++ [] := by rw [List.append_nil, ← hT]; exact List.take_of_length_le (by omega)
    have hD := at_whole hT1 hkv
    have hle := whole_le hT1 (by omega) hkv
    obtain ⟨p1, p2, ⟨q0, q1, q2, q3⟩, _⟩ := enc_parts hD
    have hlen := encKV_length kv
    have hnx := take_next hkv
    generalize (encKVs (kvs.take j)).length = k at *
    have hK : (UInt8.ofNat kv.key.size).toNat = kv.key.size := by have := hfit.2.1; simp; omega
    have hend : nameEnd l k = k + (1 + kv.key.size) := by
      unfold nameEnd
      rw [p1, hK]
      exact (Nat.min_eq_left (by omega)).trans (by omega)
    rw [hend]
    refine ⟨.inl ?_, fun _ => ⟨j + 1, by omega, ?_⟩⟩
    · rw [show k + (1 + kv.key.size) - (k + 1) = kv.key.size by omega, p2]
      exact ha kv hmem
    · rw [be4At_enc q0 q1 q2 q3 hfit.2.2, hnx, hlen]
      omega
  · rintro e w' ⟨⟨b, rfl, hb⟩, rfl⟩
    cases b
    · exact (hb rfl).elim
    · exact ⟨rfl, rfl⟩

/-- What ParseMetadata answers. -/
def MParsed (w : World) (kvs : List Kv) (e : Ending) (w' : World) : Prop :=
  ∃ (A : Option Addr) (m c : Nat) (zs : List Kv), e = .returned (.tuple #[.slice A m c, .bool true]) ∧ KvS w' w'.heap.size A m zs ∧ zs.Perm (kvs.map nmK) ∧ Below w.heap.size w w'

set_option maxRecDepth 100000 in
theorem ParseMetadata_ok (A : Option Addr) (n c : Nat) (l : List UInt8) (kvs : List Kv) (w : World) (hr : RB w w.heap.size A n l) (hn : n ≤ 2147483647) (hnc : n ≤ c)
    (hT : l = encKVs kvs) (hf : ∀ kv ∈ kvs, kvFit kv) (hk10 : kvs.length ≤ 10) (hpw : kvs.Pairwise (fun a b => keyL (nmK a) ≠ keyL (nmK b))) (ha : ∀ kv ∈ kvs, kv.key.data.toList.all asciiB = true) :
    Calls Tryd.prog 8 #[.slice A n c] w (MParsed w kvs) := by
  have hmf : ∀ (fn : Fn) (first cap : Array Value) (w : World), (Instr.makeFunc fn first cap).run Tryd.prog w = .ok (.func fn first cap) w := fun _ _ _ _ => rfl
  have b0 := ((Blk.new w 30 #[.slice A n c]).alloc (.cells #[.slice none 0 0] 22)).alloc (.cells #[.bool false] 4)
  have b1 := (Blk.new (w.alloc (.cells #[.slice A n c] 30)) 22 #[.slice none 0 0]).alloc (.cells #[.bool false] 4)
  have b2 := Blk.new ((w.alloc (.cells #[.slice A n c] 30)).alloc (.cells #[.slice none 0 0] 22)) 4 #[.bool false]
  have hr' := ((hr.new (.cells #[.slice A n c] 30)).new (.cells #[.slice none 0 0] 22)).new (.cells #[.bool false] 4)
  have hbA : Below w.heap.size w (((w.alloc (.cells #[.slice A n c] 30)).alloc (.cells #[.slice none 0 0] 22)).alloc (.cells #[.bool false] 4)) := (((Below.refl _ _).alloc (Nat.le_refl _) _).alloc (by simp) _).alloc (by simp; omega) _
  have hsA : (((w.alloc (.cells #[.slice A n c] 30)).alloc (.cells #[.slice none 0 0] 22)).alloc (.cells #[.bool false] 4)).heap.size = w.heap.size + 3 := by simp
  go_enter Tryd.func8, Tryd.ntmps8
  go_wp2_with fail
  generalize (((w.alloc (.cells #[.slice A n c] 30)).alloc (.cells #[.slice none 0 0] 22)).alloc (.cells #[.bool false] 4)) = W at *
  have HX := Lib.hid (⟨hT, hf, hpw⟩ : _ ∧ _ ∧ _)
  have HA := Lib.hid (⟨b0, b1, b2, hr', hbA, hsA⟩ : _ ∧ _ ∧ _ ∧ _ ∧ _ ∧ _)
  simp only [World.size_alloc] at HA
  have k0 := HA.out.1.cell0
  clear b0 b1 b2 hr' hbA hsA hpw hr
  refine (named_ok A n c W.heap.size l kvs W HA.out.2.2.2.1 hn hnc hT hf ha).mono ?_
  rintro e w' ⟨rfl, rfl⟩
  clear hT hf ha
  go_wp2_with fail
  refine (quietly_any 20 _ _ (fun q w' => q = true ∧ ∃ (FA : Option Addr) (fc : Nat) (ys : List Kv), Blk w' (w.heap.size + 1) 22 #[.slice FA ys.length fc] ∧ Blk w' (w.heap.size + 1 + 1) 4 #[.bool true] ∧ w'.ownsRow (w.heap.size + 4) 36 2 (.slice FA ys.length fc) ys.length (kvCells ys) ∧ ys.Perm (kvs.map nmK) ∧ Below w.heap.size w w') (fun W => rfl) ?_).mono ?_
  · obtain ⟨b0, b1, b2, hr', hbA, hsA⟩ := HA.out
    have b3 := Blk.new W 4 #[.bool false]
    have hWs : (W.alloc (.cells #[.bool false] 4)).heap.size = w.heap.size + 4 := by simp; omega
    refine (ParseMetadata_fo w.heap.size (w.heap.size + 1 + 1) (w.heap.size + 1) A n c l kvs _ (hr'.new _) hn (b0.alloc _) (b1.alloc _) (b2.alloc _) HX.out.1 HX.out.2.1 hk10 HX.out.2.2).mono ?_
    rintro e w' ⟨rfl, FA, fc, ys, q1, q2, ho, hp, hap⟩
    rw [hWs] at ho
    have q3 := hap.blk b3 (by simp; omega)
    have hbN : Below w.heap.size w (W.alloc (.cells #[.bool false] 4)) := hbA.alloc (by omega) _
    exact ⟨q3.cell0, q3.frozen 0, .inl ⟨rfl, rfl, FA, fc, ys, q1, q2, ho, hp, hbN.trans (hap.below (by omega) (by simp; omega))⟩⟩
  rintro e w' ⟨q, w1, rfl, ⟨rfl, FA, fc, ys, q1, q2, ho, hp, hb⟩, rfl⟩
  have hsA := HA.out.2.2.2.2.2
  have q1 := q1.farN (b := W.heap.size) (o := 0) (by omega) (.bool true)
  have q2 := q2.farN (b := W.heap.size) (o := 0) (by omega) (.bool true)
  have hb := below_setN (b := W.heap.size) (o := 0) hb (by omega) (.bool true)
  have ho := ownsRow_setCell_below ho (a := ⟨W.heap.size, 0, none⟩) (by simp only; omega) (.bool true)
  generalize w1.setCell ⟨W.heap.size, 0, none⟩ (.bool true) = V at *
  have c1 := q1.cell0
  have c2 := q2.cell0
  have hyl : ys.length ≤ 10 := by have := hp.length_eq; rw [List.length_map] at this; omega
  have HF := Lib.hid (⟨q1, q2, ho, hp, hb⟩ : _ ∧ _ ∧ _ ∧ _ ∧ _)
  clear q1 q2 ho hp hb hsA HA HX k0 hmf
  go_wp2_with fail
  have hfa : ∀ g, FA.map (·.block) = some g → w.heap.size + 4 ≤ g := fun g hg => own_base' HF.out.2.2.1 hg
  refine (SortFunc (w.heap.size + 4) ys.length fc FA ys V HF.out.2.2.1 hyl).mono ?_
  rintro e w2 ⟨rfl, ⟨zs, hz, hp2⟩, hbl⟩
  obtain ⟨q1, q2, ho, hp, hb⟩ := HF.out
  have r1 := q1.below hbl (by omega)
  have r2 := q2.below hbl (by omega)
  have g1 := r1.cell0
  have g2 := r1.frozen 0
  have g3 := r2.cell0
  have g4 := r2.frozen 0
  have hb2 : Below w.heap.size w w2 := hb.trans (hbl.mono (by omega))
  have HG := Lib.hid (⟨r1, r2, hb2, hz, hp2.trans hp⟩ : _ ∧ _ ∧ _ ∧ _ ∧ _)
  clear q1 q2 ho hp hb r1 r2 hb2 hz hp2 hbl c1 c2 HF
  go_wp2_with fail
  obtain ⟨r1, r2, hb2, hz, hp3⟩ := HG.out
  have t1 := ((r1.setN (.slice FA ys.length fc)).farN (b := w.heap.size + 1 + 1) (o := 0) (by omega) (.bool true)).cell0
  have t2 := ((r2.farN (b := w.heap.size + 1) (o := 0) (by omega) (.slice FA ys.length fc)).setN (.bool true)).cell0
  have hz' : KvS ((w2.setCell ⟨w.heap.size + 1, 0, none⟩ (.slice FA ys.length fc)).setCell ⟨w.heap.size + 1 + 1, 0, none⟩ (.bool true)) w2.heap.size FA ys.length zs :=
    (((Apart.refl [w.heap.size + 1, w.heap.size + 1 + 1] w2).setN (.inl (by simp)) (.slice FA ys.length fc)).setN (.inl (by simp)) (.bool true)).reads hz (Nat.le_refl _) (fun ad e hm => by
      have := hfa ad.block (by rw [e]; rfl)
      simp only [List.mem_cons, List.not_mem_nil, or_false] at hm
      omega)
  exact bodyPost_ret (v := .tuple #[.slice FA ys.length fc, .bool true]) (by simp [results, Tryd.results8, go_sem, t1, t2]) rfl ⟨FA, ys.length, fc, zs, rfl, hz'.more (by simp [World.setCell]), hp3, below_setN (b := w.heap.size + 1 + 1) (o := 0) (below_setN (b := w.heap.size + 1) (o := 0) hb2 (by omega) (.slice FA ys.length fc)) (by omega) (.bool true)⟩
end Go.Proofs.YtkpcepdalegmmaaDoor
