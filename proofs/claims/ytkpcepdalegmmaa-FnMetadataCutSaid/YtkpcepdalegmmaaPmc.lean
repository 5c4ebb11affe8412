/- Properties: impl.ParseMetadata of bytes that are cut. -/
import Derived.Test.YtkpcepdalegmmaaUnk
import Derived.Test.YtkpcepdalegmmaaQuiet
namespace Go.Proofs.Ytkpcepdalegmmaa
open Go.RowKit

/-- What the closure comes to at bytes that are cut. -/
def MFail (w : World) (e : Ending) (w' : World) : Prop := ((e = .returned (.tuple #[])) ∨ (∃ u pv, e = .panicked [{ v := .iface u pv, recovered := false }])) ∧ Below w.heap.size w w'

set_option maxRecDepth 100000 in
theorem ParseMetadata_fc (pd pk pl : Nat) (A : Option Addr) (n c : Nat) (l tail : List UInt8) (kvs : List Kv) (w : World) (hr : RB w w.heap.size A n l) (hn : n ≤ 2147483647) (b0 : Blk w pd 22 #[.slice A n c])
    (hT : l = encKVs kvs ++ tail) (hf : ∀ kv ∈ kvs, kvFit kv) (hk10 : kvs.length ≤ 10) (ht : CutKv tail) :
    Calls Try.prog 49 #[.pointer (some ⟨pd, 0, none⟩), .pointer (some ⟨pk, 0, none⟩), .pointer (some ⟨pl, 0, none⟩)] w (MFail w) := by
  have hmm : ∀ t W, (Instr.makeMap t none).run Try.prog W = .ok (.map (some W.heap.size)) (W.alloc (.map #[] 0)) := fun _ _ => rfl
  have htn : tail ≠ [] := by
    obtain ⟨_, _, h0, _⟩ := ht
    intro e
    rw [e] at h0
    simp at h0
  have hM0 : MapIs (((w.alloc (.map #[] 0)).alloc (.cells #[.map (some w.heap.size)] 95)).alloc (.cells #[] 5)) w.heap.size 0 (.map []) := ((World.ownsMap_made w Try.prog 9 (plainElem Try.prog 9)).alloc _).alloc _
  have hP0 := (Blk.new (w.alloc (.map #[] 0)) 95 #[.map (some w.heap.size)]).alloc (.cells #[] 5)
  have hD0 : BB (((w.alloc (.map #[] 0)).alloc (.cells #[.map (some w.heap.size)] 95)).alloc (.cells #[] 5)) (w.heap.size + 1 + 1) 5 [] := by
    have h := Blk.new ((w.alloc (.map #[] 0)).alloc (.cells #[.map (some w.heap.size)] 95)) 5 #[]
    rw [World.size_alloc, World.size_alloc] at h
    exact h
  have hB0 : Below w.heap.size w (((w.alloc (.map #[] 0)).alloc (.cells #[.map (some w.heap.size)] 95)).alloc (.cells #[] 5)) := (((Below.refl _ _).alloc (Nat.le_refl _) _).alloc (by simp) _).alloc (by simp; omega) _
  have d0 := (b0.after hB0 (Nat.le_refl _)).cell0
  have hr0 := ((hr.new (.map #[] 0)).new (.cells #[.map (some w.heap.size)] 95)).new (.cells #[] 5)
  rw [World.size_alloc] at hP0
  have hl := hr.len
  have HT := Lib.hid (⟨hT, hf, ht, hl, htn⟩ : _ ∧ _ ∧ _ ∧ _ ∧ _)
  clear hT hf ht hl htn hr b0
  go_enter Try.func49, Try.ntmps49
  go_wp2_with (first
    | (at_builtin
       refine wpl_appZ rfl (.tmp 8) (.tmp 9) 22 rfl (w.heap.size + 1 + 1) rfl hD0 _ n l rfl (srcB hr0) (by omega) ?_
       intro g c1 w1 hg1 hb1 hD1 hc1 hm1))
  have hT1 : (l ++ List.replicate (c1 - n) 0).take n = encKVs kvs ++ tail := by rw [← HT.out.2.2.2.1, List.take_left]; exact HT.out.1
  have hL1 : (l ++ List.replicate (c1 - n) 0).length = c1 := by
    have := HT.out.2.2.2.1
    simp
    omega
  have hM1 : MapIs w1 w.heap.size 0 (.map []) := hM0.apart (ps := []) (Apart.of_below hb1) (by simp)
  have hB1 : Below w.heap.size w w1 := below_seq hB0 hb1 hB0.size
  have hc := UnmarshalZMTP (w.heap.size + 1) w.heap.size g n c1 _ tail kvs w1 (hP0.after hb1 (Nat.le_refl _)) hM1 hg1 hL1 hc1 hn hT1 HT.out.2.1 hk10 (.inr HT.out.2.2.1)
  have HC := Lib.hid hc
  have HB1 := Lib.hid hB1
  clear hc hM1 hB1 hT1 hL1 hg1 hb1 hM0 hP0 hD0 hB0 d0 hr0 hD1 hc1 hm1
  refine HC.out.mono ?_
  rintro e w2 ⟨_, hno, ha⟩
  have hB2 : Below w.heap.size w w2 := HB1.out.trans (ha.below HB1.out.size (by simp))
  have HB2 := Lib.hid hB2
  rcases hno HT.out.2.2.2.2 with ⟨str, rfl⟩ | ⟨u, pv, rfl⟩
  · clear hno ha hB2 HC HB1
    go_wp2_with fail
    exact bodyPost_ret (results_none rfl _ _ _) rfl ⟨.inl rfl, HB2.out⟩
  · clear hno ha hB2 HC HB1
    go_wp2_with fail
    exact ⟨rfl, .inr ⟨_, _, rfl⟩, HB2.out⟩

set_option maxRecDepth 100000 in
theorem ParseMetadata_cut (A : Option Addr) (n c : Nat) (l tail : List UInt8) (kvs : List Kv) (w : World) (hr : RB w w.heap.size A n l) (hn : n ≤ 2147483647) (hnc : n ≤ c)
    (hT : l = encKVs kvs ++ tail) (hf : ∀ kv ∈ kvs, kvFit kv) (hk10 : kvs.length ≤ 10) (ht : CutKv tail) :
    Calls Try.prog 28 #[.slice A n c] w fun e w' => e = .returned (.tuple #[.slice none 0 0, .bool false]) ∧ Below w.heap.size w w' := by
  have hmf : ∀ (fn : Fn) (first cap : Array Value) (w : World), (Instr.makeFunc fn first cap).run Try.prog w = .ok (.func fn first cap) w := fun _ _ _ _ => rfl
  have b0 := ((Blk.new w 22 #[.slice A n c]).alloc (.cells #[.slice none 0 0] 47)).alloc (.cells #[.bool false] 4)
  have b1 := (Blk.new (w.alloc (.cells #[.slice A n c] 22)) 47 #[.slice none 0 0]).alloc (.cells #[.bool false] 4)
  have b2 := Blk.new ((w.alloc (.cells #[.slice A n c] 22)).alloc (.cells #[.slice none 0 0] 47)) 4 #[.bool false]
  have hr' := ((hr.new (.cells #[.slice A n c] 22)).new (.cells #[.slice none 0 0] 47)).new (.cells #[.bool false] 4)
  have hbA : Below w.heap.size w (((w.alloc (.cells #[.slice A n c] 22)).alloc (.cells #[.slice none 0 0] 47)).alloc (.cells #[.bool false] 4)) := (((Below.refl _ _).alloc (Nat.le_refl _) _).alloc (by simp) _).alloc (by simp; omega) _
  have hsA : (((w.alloc (.cells #[.slice A n c] 22)).alloc (.cells #[.slice none 0 0] 47)).alloc (.cells #[.bool false] 4)).heap.size = w.heap.size + 3 := by simp
  go_enter Try.func28, Try.ntmps28
  go_wp2_with fail
  generalize (((w.alloc (.cells #[.slice A n c] 22)).alloc (.cells #[.slice none 0 0] 47)).alloc (.cells #[.bool false] 4)) = W at *
  have HX := Lib.hid (⟨hT, hf, ht⟩ : _ ∧ _ ∧ _)
  have HA := Lib.hid (⟨b0, b1, b2, hr', hbA, hsA⟩ : _ ∧ _ ∧ _ ∧ _ ∧ _ ∧ _)
  simp only [World.size_alloc] at HA
  have k0 := HA.out.1.cell0
  clear b0 b1 b2 hr' hbA hsA hT hf ht hr
  refine (named_any (fun _ => True) True A n c W.heap.size l W HA.out.2.2.2.1 hn hnc trivial (fun _ _ _ => ⟨.inr trivial, fun _ => trivial⟩)).mono ?_
  rintro e w' ⟨⟨b, rfl, _⟩, rfl⟩
  cases b
  · have f1 := HA.out.2.1.frozen 0
    have f2 := HA.out.2.2.1.frozen 0
    have c1 := HA.out.2.1.cell0
    have c2 := HA.out.2.2.1.cell0
    go_wp2_with fail
    obtain ⟨b0, b1, b2, hr', hbA, hsA⟩ := HA.out
    have k1 := ((b1.setN (.slice none 0 0)).farN (b := w.heap.size + 1 + 1) (o := 0) (by omega) (.bool false)).cell0
    have k2 := ((b2.farN (b := w.heap.size + 1) (o := 0) (by omega) (.slice none 0 0)).setN (.bool false)).cell0
    exact bodyPost_ret (v := .tuple #[.slice none 0 0, .bool false]) (by simp [results, Try.results28, go_sem, k1, k2]) rfl ⟨rfl, below_setN (b := w.heap.size + 1 + 1) (o := 0) (below_setN (b := w.heap.size + 1) (o := 0) hbA (by omega) (.slice none 0 0)) (by omega) (.bool false)⟩
  · go_wp2_with fail
    refine (quietly_any 49 _ _ (fun _ w' => Blk w' (w.heap.size + 1) 47 #[.slice none 0 0] ∧ Blk w' (w.heap.size + 1 + 1) 4 #[.bool false] ∧ Below w.heap.size w w') (fun W => rfl) ?_).mono ?_
    · obtain ⟨b0, b1, b2, hr', hbA, hsA⟩ := HA.out
      have b3 := Blk.new W 4 #[.bool false]
      have hbN : Below W.heap.size W (W.alloc (.cells #[.bool false] 4)) := (Below.refl _ _).alloc (Nat.le_refl _) _
      refine (ParseMetadata_fc w.heap.size (w.heap.size + 1 + 1) (w.heap.size + 1) A n c l tail kvs _ (hr'.new _) hn (b0.alloc _) HX.out.1 HX.out.2.1 hk10 HX.out.2.2).mono ?_
      rintro e w' ⟨he, hb⟩
      have hbW : Below W.heap.size W w' := below_new hb
      have q1 := b1.after hbW (Nat.le_refl _)
      have q2 := b2.after hbW (Nat.le_refl _)
      have q3 := b3.after hb (Nat.le_refl _)
      have hbw := hbA.trans (hbW.mono (by rw [hsA]; omega))
      refine ⟨q3.cell0, q3.frozen 0, ?_⟩
      rcases he with rfl | ⟨u, pv, rfl⟩
      · exact .inl ⟨rfl, q1, q2, hbw⟩
      · exact .inr ⟨u, pv, rfl, q1, q2, hbw⟩
    rintro e w' ⟨b, w1, rfl, ⟨q1, q2, hb⟩, rfl⟩
    have hsA := HA.out.2.2.2.2.2
    have q1 := q1.farN (b := W.heap.size) (o := 0) (by omega) (.bool b)
    have q2 := q2.farN (b := W.heap.size) (o := 0) (by omega) (.bool b)
    have hb := below_setN (b := W.heap.size) (o := 0) hb (by omega) (.bool b)
    generalize w1.setCell ⟨W.heap.size, 0, none⟩ (.bool b) = V at *
    have f1 := q1.frozen 0
    have f2 := q2.frozen 0
    have c1 := q1.cell0
    have c2 := q2.cell0
    have HB := Lib.hid hb
    have HQ := Lib.hid (⟨q1, q2⟩ : _ ∧ _)
    clear q1 q2 hb hsA HA HX k0 hmf
    cases b
    · go_wp2_with fail
      obtain ⟨q1, q2⟩ := HQ.out
      have k1 := ((q1.setN (.slice none 0 0)).farN (b := w.heap.size + 1 + 1) (o := 0) (by omega) (.bool false)).cell0
      have k2 := ((q2.farN (b := w.heap.size + 1) (o := 0) (by omega) (.slice none 0 0)).setN (.bool false)).cell0
      exact bodyPost_ret (v := .tuple #[.slice none 0 0, .bool false]) (by simp [results, Try.results28, go_sem, k1, k2]) rfl ⟨rfl, below_setN (b := w.heap.size + 1 + 1) (o := 0) (below_setN (b := w.heap.size + 1) (o := 0) HB.out (by omega) (.slice none 0 0)) (by omega) (.bool false)⟩
    · go_wp2_with fail
      obtain ⟨q1, q2⟩ := HQ.out
      have k1 := ((q1.setN (.slice none 0 0)).farN (b := w.heap.size + 1 + 1) (o := 0) (by omega) (.bool false)).cell0
      have k2 := ((q2.farN (b := w.heap.size + 1) (o := 0) (by omega) (.slice none 0 0)).setN (.bool false)).cell0
      exact bodyPost_ret (v := .tuple #[.slice none 0 0, .bool false]) (by simp [results, Try.results28, go_sem, k1, k2]) rfl ⟨rfl, below_setN (b := w.heap.size + 1 + 1) (o := 0) (below_setN (b := w.heap.size + 1) (o := 0) HB.out (by omega) (.slice none 0 0)) (by omega) (.bool false)⟩
end Go.Proofs.Ytkpcepdalegmmaa
