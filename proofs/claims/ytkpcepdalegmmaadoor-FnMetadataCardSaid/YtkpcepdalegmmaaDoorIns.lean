/- slices.SortFunc at a short slice of properties: what lies there afterwards is a permutation. -/
import Derived.Test.YtkpcepdalegmmaaDoorOrd
import Derived.Test.YtkpcepdalegmmaaDoorApart
import Derived.Deep.QuietTactic
import Derived.BigQuiet
import Derived.Deep.RegionHeld3
import Derived.Deep.RegionLaw
namespace Go.Proofs.YtkpcepdalegmmaaDoor
open Go.RowKit

/-- Block g begins with the properties ys, none of their cells frozen. -/
def ArrK (w : World) (g n : Nat) (ys : List Kv) : Prop := ys.length = n ∧ g < w.heap.size ∧ ∀ j f, ys[j]? = some f → (w.cell? ⟨g, j * 2, none⟩ = some (.string f.key) ∧ w.cell? ⟨g, j * 2 + 1, none⟩ = some (.string f.val)) ∧ w.frozen? ⟨g, j * 2, none⟩ = false ∧ w.frozen? ⟨g, j * 2 + 1, none⟩ = false
section
variable {w w' : World} {g n : Nat} {ys : List Kv}
theorem ArrK.kvs (h : ArrK w g n ys) : KvS w w.heap.size (some ⟨g, 0, none⟩) n ys := by
  refine ⟨by rw [kvCells_length, h.1], fun h0 => ⟨_, rfl, h.2.1, fun j u hu => ?_⟩⟩
  have hj : j < ys.length * 2 := by
    have := (List.getElem?_eq_some_iff.1 hu).1
    rw [kvCells_length] at this
    exact this
  obtain ⟨i, r, hr, rfl⟩ : ∃ i r, r < 2 ∧ j = i * 2 + r := ⟨j / 2, j % 2, by omega, by omega⟩
  have hi : i < ys.length := by omega
  have hf : ys[i]? = some ys[i] := List.getElem?_eq_getElem hi
  obtain ⟨c0, c1⟩ := kvCells_at _ _ _ hf
  obtain ⟨⟨k0, k1⟩, _⟩ := h.2.2 i _ hf
  rw [Addr.add_lit, Nat.zero_add]
  rcases (show r = 0 ∨ r = 1 by omega) with rfl | rfl
  · exact k0.trans (c0.symm.trans hu)
  · exact k1.trans (c1.symm.trans hu)
theorem ArrK.of_own {base c : Nat} {t : TypeId} (h : w.ownsRow base t 2 (.slice (some ⟨g, 0, none⟩) n c) n (kvCells ys)) (hn : 0 < n) : ArrK w g n ys := by
  have hl : ys.length = n := by have := h.1; rw [kvCells_length] at this; omega
  rcases h.2 with ⟨hv, h0⟩ | ⟨g', cap, cur, hv, hb, hh, h1, h2, h3, h4⟩
  · omega
  · injection hv with hA _ _
    injection hA with hA
    injection hA with hA
    subst hA
    refine ⟨hl, (Array.getElem?_eq_some_iff.1 hh).1, fun j f hf => ?_⟩
    obtain ⟨c0, c1⟩ := kvCells_at ys j f hf
    have hfz : ∀ i, w.frozen? ⟨g, i, none⟩ = false := fun i => by simp [World.frozen?, hh]
    have hcell : ∀ i u, (kvCells ys)[i]? = some u → w.cell? ⟨g, i, none⟩ = some u := fun i u hu => by
      rw [cell_of_row w g i cur t (0, 0) hh]
      rw [← h4, List.getElem?_take] at hu
      split at hu
      · simpa using hu
      · cases hu
    exact ⟨⟨hcell _ _ c0, hcell _ _ c1⟩, hfz _, hfz _⟩
theorem ArrK.apart {ps : List Nat} (h : ArrK w g n ys) (ha : Apart ps w w') (hg : g ∉ ps) : ArrK w' g n ys :=
  ⟨h.1, Nat.lt_of_lt_of_le h.2.1 ha.size, fun j f hf => by
    obtain ⟨⟨a, b⟩, c, d⟩ := h.2.2 j f hf
    exact ⟨⟨(ha.cell (p := ⟨g, _, none⟩) h.2.1 hg).trans a, (ha.cell (p := ⟨g, _, none⟩) h.2.1 hg).trans b⟩, (ha.frozen (p := ⟨g, _, none⟩) h.2.1 hg).trans c, (ha.frozen (p := ⟨g, _, none⟩) h.2.1 hg).trans d⟩⟩
/-- Property i written. -/
theorem ArrK.put (h : ArrK w g n ys) (i : Nat) (p : Kv) : ArrK ((w.setCell ⟨g, i * 2, none⟩ (.string p.key)).setCell ⟨g, i * 2 + 1, none⟩ (.string p.val)) g n (ys.set i p) := by
  refine ⟨by rw [List.length_set]; exact h.1, by simp only [World.size_setCell]; exact h.2.1, fun j f hf => ?_⟩
  have hl := h.1
  have hjl : j < ys.length := by
    have := (List.getElem?_eq_some_iff.1 hf).1
    rw [List.length_set] at this
    exact this
  have hyj : ys[j]? = some ys[j] := List.getElem?_eq_getElem hjl
  obtain ⟨⟨a, b⟩, c, d⟩ := h.2.2 j _ hyj
  simp only [World.frozen?_setCell]
  refine ⟨?_, c, d⟩
  by_cases hij : i = j
  · subst hij
    have hp : f = p := by
      rw [List.getElem?_set_self (by omega)] at hf
      exact (Option.some.inj hf).symm
    subst hp
    have n1 : (⟨g, i * 2, none⟩ : Addr) ≠ ⟨g, i * 2 + 1, none⟩ := fun e => by injection e with _ e; omega
    refine ⟨?_, ?_⟩
    · rw [World.cell?_setCell_other _ _ _ _ (fun e => n1 e.symm)]
      exact World.cell?_setCell_same w _ _ a
    · exact World.cell?_setCell_same _ _ _ ((World.cell?_setCell_other _ _ _ _ n1).trans b)
  · have hf2 : f = ys[j] := by
      rw [List.getElem?_set_ne hij, hyj] at hf
      exact (Option.some.inj hf).symm
    subst hf2
    have f00 : (⟨g, i * 2, none⟩ : Addr) ≠ ⟨g, j * 2, none⟩ := fun e => by injection e with _ e; omega
    have f01 : (⟨g, i * 2, none⟩ : Addr) ≠ ⟨g, j * 2 + 1, none⟩ := fun e => by injection e with _ e; omega
    have f10 : (⟨g, i * 2 + 1, none⟩ : Addr) ≠ ⟨g, j * 2, none⟩ := fun e => by injection e with _ e; omega
    have f11 : (⟨g, i * 2 + 1, none⟩ : Addr) ≠ ⟨g, j * 2 + 1, none⟩ := fun e => by injection e with _ e; omega
    refine ⟨?_, ?_⟩
    · rw [World.cell?_setCell_other _ _ _ _ f10, World.cell?_setCell_other _ _ _ _ f00]
      exact a
    · rw [World.cell?_setCell_other _ _ _ _ f11, World.cell?_setCell_other _ _ _ _ f01]
      exact b
theorem swap_perm {l : List Kv} {i j : Nat} {a b : Kv} (ha : l[i]? = some a) (hb : l[j]? = some b) : ((l.set i b).set j a).Perm l := by
  obtain ⟨h1, rfl⟩ := List.getElem?_eq_some_iff.1 ha
  obtain ⟨h2, rfl⟩ := List.getElem?_eq_some_iff.1 hb
  exact List.set_set_perm h1 h2
end

theorem cmp_no (k1 v1 k2 v2 : ByteArray) (w : World) (h : Op.bytesLess k1.toList k2.toList = false) :
    Calls Tryd.prog 23 #[.agg #[.string k1, .string v1], .agg #[.string k2, .string v2]] w fun e w' => e = .returned (.int .i64 1) ∧ Below w.heap.size w w' := by
  have hb : Below w.heap.size w ((w.alloc (.cells #[.string k1, .string v1] 36)).alloc (.cells #[.string k2, .string v2] 36)) := ((Below.refl _ _).alloc (Nat.le_refl _) _).alloc (by simp) _
  go_enter Tryd.func23, Tryd.ntmps23
  go_wp2_with fail
  go_ret
  exact ⟨rfl, hb⟩
theorem cmp_yes (k1 v1 k2 v2 : ByteArray) (w : World) (h : Op.bytesLess k1.toList k2.toList = true) :
    Calls Tryd.prog 23 #[.agg #[.string k1, .string v1], .agg #[.string k2, .string v2]] w fun e w' => e = .returned (.int .i64 (-1)) ∧ Below w.heap.size w w' := by
  have hb : Below w.heap.size w ((w.alloc (.cells #[.string k1, .string v1] 36)).alloc (.cells #[.string k2, .string v2] 36)) := ((Below.refl _ _).alloc (Nat.le_refl _) _).alloc (by simp) _
  go_enter Tryd.func23, Tryd.ntmps23
  go_wp2_with fail
  go_ret
  exact ⟨rfl, hb⟩

/-- What the sort leaves. -/
def SortLeft (w : World) (g n : Nat) (ys : List Kv) (e : Ending) (w' : World) : Prop := e = .returned (.tuple #[]) ∧ (∃ zs, ArrK w' g n zs ∧ zs.Perm ys) ∧ Apart [g] w w'

set_option maxRecDepth 100000 in
set_option maxHeartbeats 8000000 in
theorem insertion (g n c : Nat) (ys : List Kv) (w : World) (hy : ArrK w g n ys) (hn : n ≤ 12) :
    Calls Tryd.prog 43 #[.slice (some ⟨g, 0, none⟩) n c, .int .i64 0, .int .i64 n, .func (.func 23) #[] #[]] w (SortLeft w g n ys) := by
  have HY := Lib.hid hy
  have hgw := hy.2.1
  clear hy
  go_enter Tryd.func43, Tryd.ntmps43
  go_wp2_with fail
  go_loopw [8] (fun v wr => ∃ (i : Nat) (zs : List Kv), 1 ≤ i ∧ i ≤ 13 ∧ v = .int .i64 i ∧ Hid (ArrK wr g n zs ∧ zs.Perm ys) ∧ Hid (Apart [g] w wr)) (fun v _ => n - (intOf v).toNat)
  case atStart => exact ⟨1, ys, by omega, by omega, rfl, Lib.hid ⟨HY.out, List.Perm.refl _⟩, Lib.hid (Apart.refl _ _)⟩
  case round =>
    obtain ⟨i, zs0, hi1, hi2, rfl, hz0, ha0⟩ := hrel
    by_cases hin : i < n
    · go_wp2_with fail
      obtain ⟨wo, rfl⟩ : ∃ wo : World, wo = wr := ⟨_, rfl⟩
      go_loopw [9] (fun v wr => ∃ (j : Nat) (zs : List Kv), j ≤ i ∧ v = .int .i64 j ∧ Hid (ArrK wr g n zs ∧ zs.Perm ys) ∧ Hid (Apart [g] w wr)) (fun v _ => (intOf v).toNat)
      case atStart => exact ⟨i, zs0, Nat.le_refl _, rfl, hz0, ha0⟩
      case round =>
        obtain ⟨j, zs, hj, rfl, hz, ha⟩ := hrel
        by_cases hj0 : j = 0
        · have d3 : decide (0 < j) = false := decide_eq_false (by omega)
          have hw2 : ∀ nd, Hid (ArrK (wr.drewN nd) g n zs ∧ zs.Perm ys) ∧ Hid (Apart [g] w (wr.drewN nd)) := fun nd => ⟨Lib.hid ⟨hz.out.1.apart (ps := []) ((Apart.refl _ _).drewN nd) (by simp), hz.out.2⟩, Lib.hid (ha.out.drewN nd)⟩
          have HW2 := Lib.hid hw2
          clear hw2 hj0
          go_wp2_with fail
          go_quiet (fail)
          rename_i aK
          refine aK _ _ ?_
          go_wp2_with fail
          go_roundw
          case rel => exact ⟨i + 1, zs, by omega, by omega, by go_num, (HW2.out _).1, (HW2.out _).2⟩
          case measure => simp [intOf]; omega
        · have d3 : decide (0 < j) = true := decide_eq_true (by omega)
          have hj1 : (1 : Int) ≤ (j : Int) := by omega
          have hj2 : (j : Int) - 1 < (n : Int) := by omega
          have hjn : (j : Int) < (n : Int) := by omega
          obtain ⟨hz1, hzp⟩ := hz.out
          obtain ⟨f, hf⟩ : ∃ f, zs[j]? = some f := ⟨zs[j]'(by rw [hz1.1]; omega), List.getElem?_eq_getElem _⟩
          obtain ⟨f', hf'⟩ : ∃ f, zs[j - 1]? = some f := ⟨zs[j - 1]'(by rw [hz1.1]; omega), List.getElem?_eq_getElem _⟩
          have HF := Lib.hid (⟨hf, hf'⟩ : _ ∧ _)
          have S_of : ∀ V, Below wr.heap.size wr V → V.cell? ⟨g, j * 2, none⟩ = some (.string f.key) ∧ V.cell? ⟨g, j * 2 + 1, none⟩ = some (.string f.val) ∧ V.cell? ⟨g, (j - 1) * 2, none⟩ = some (.string f'.key) ∧ V.cell? ⟨g, (j - 1) * 2 + 1, none⟩ = some (.string f'.val) := fun V hV => by
            have h2 := hz1.apart (ps := []) (Apart.of_below hV) (by simp)
            exact ⟨(h2.2.2 j f hf).1.1, (h2.2.2 j f hf).1.2, (h2.2.2 _ f' hf').1.1, (h2.2.2 _ f' hf').1.2⟩
          have hgw2 := hz1.2.1
          clear hf hf' hz1 hzp
          cases hc : Op.bytesLess f.key.toList f'.key.toList
          · have y1 : IntKind.i64.wrap ((j : Int) - 1) = (j : Int) - 1 := by rw [IntKind.wrap_i64]; omega
            have y2 : (0 : Int) ≤ (j : Int) - 1 := by omega
            have y3 : ((j : Int) - 1).toNat = j - 1 := by omega
            go_wp2_with fail
            go_region_held3 (fun V => V.cell? ⟨g, j * 2, none⟩ = some (.string f.key) ∧ V.cell? ⟨g, j * 2 + 1, none⟩ = some (.string f.val) ∧ V.cell? ⟨g, (j - 1) * 2, none⟩ = some (.string f'.key) ∧ V.cell? ⟨g, (j - 1) * 2 + 1, none⟩ = some (.string f'.val))
              ((first | exact S_of _ (Below.refl _ _).drew | exact S_of _ hb2))
              (first
                | (go_at_call 23
                   refine (cmp_no f.key f.val f'.key f'.val _ hc).mono ?_
                   rintro e w2 ⟨rfl, hb2'⟩
                   have hb2 : Below wr.heap.size wr w2 := (Below.refl _ wr).drew.trans hb2'))
            rename_i aK _
            refine aK _ _ ?_
            have hA2 : Hid (ArrK w2 g n zs ∧ zs.Perm ys) := Lib.hid ⟨hz.out.1.apart (ps := []) (Apart.of_below hb2) (by simp), hz.out.2⟩
            have hP2 : Hid (Apart [g] w w2) := Lib.hid (ha.out.then_below hb2)
            clear y1 y2 y3 hc hb2 S_of
            go_wp2_with fail
            go_roundw
            case rel => exact ⟨i + 1, zs, by omega, by omega, by go_num, hA2, hP2⟩
            case measure => simp [intOf]; omega
          · have y1 : IntKind.i64.wrap ((j : Int) - 1) = (j : Int) - 1 := by rw [IntKind.wrap_i64]; omega
            have y2 : (0 : Int) ≤ (j : Int) - 1 := by omega
            have y3 : ((j : Int) - 1).toNat = j - 1 := by omega
            go_wp2_with fail
            go_region_held3 (fun V => V.cell? ⟨g, j * 2, none⟩ = some (.string f.key) ∧ V.cell? ⟨g, j * 2 + 1, none⟩ = some (.string f.val) ∧ V.cell? ⟨g, (j - 1) * 2, none⟩ = some (.string f'.key) ∧ V.cell? ⟨g, (j - 1) * 2 + 1, none⟩ = some (.string f'.val))
              ((first | exact S_of _ (Below.refl _ _).drew | exact S_of _ hb2))
              (first
                | (go_at_call 23
                   refine (cmp_yes f.key f.val f'.key f'.val _ hc).mono ?_
                   rintro e w2 ⟨rfl, hb2'⟩
                   have hb2 : Below wr.heap.size wr w2 := (Below.refl _ wr).drew.trans hb2'))
            rename_i aK _
            refine aK _ _ ?_
            have hA2 : Hid (ArrK w2 g n zs ∧ zs.Perm ys) := Lib.hid ⟨hz.out.1.apart (ps := []) (Apart.of_below hb2) (by simp), hz.out.2⟩
            have hP2 : Hid (Apart [g] w w2) := Lib.hid (ha.out.then_below hb2)
            obtain ⟨k0, k1, k2, k3⟩ := S_of _ hb2
            have z0 := (hA2.out.1.2.2 j f HF.out.1).2.1
            have z1 := (hA2.out.1.2.2 j f HF.out.1).2.2
            have z2 := (hA2.out.1.2.2 _ f' HF.out.2).2.1
            have z3 := (hA2.out.1.2.2 _ f' HF.out.2).2.2
            clear y1 y2 y3 hc hb2 S_of
            go_wp2_with fail
            have y1 : IntKind.i64.wrap ((j : Int) - 1) = (j : Int) - 1 := by rw [IntKind.wrap_i64]; omega
            have y2 : (0 : Int) ≤ (j : Int) - 1 := by omega
            have y3 : ((j : Int) - 1).toNat = j - 1 := by omega
            go_region_law (fail)
            all_goals rename_i bK
            all_goals refine bK _ _ ?_
            all_goals have hA4 : Hid (ArrK ((((w2.setCell ⟨g, j * 2, none⟩ (.string f'.key)).setCell ⟨g, j * 2 + 1, none⟩ (.string f'.val)).setCell ⟨g, (j - 1) * 2, none⟩ (.string f.key)).setCell ⟨g, (j - 1) * 2 + 1, none⟩ (.string f.val)).drew g n ((zs.set j f').set (j - 1) f) ∧ ((zs.set j f').set (j - 1) f).Perm ys) := Lib.hid ⟨((hA2.out.1.put j f').put (j - 1) f).apart (ps := []) (Apart.refl _ _).drew (by simp), (swap_perm HF.out.1 HF.out.2).trans hA2.out.2⟩
            all_goals have hP4 : Hid (Apart [g] w ((((w2.setCell ⟨g, j * 2, none⟩ (.string f'.key)).setCell ⟨g, j * 2 + 1, none⟩ (.string f'.val)).setCell ⟨g, (j - 1) * 2, none⟩ (.string f.key)).setCell ⟨g, (j - 1) * 2 + 1, none⟩ (.string f.val)).drew) := Lib.hid (((((hP2.out.setN (.inl (by simp)) _).setN (.inl (by simp)) _).setN (.inl (by simp)) _).setN (.inl (by simp)) _).drew)
            all_goals generalize ((((w2.setCell ⟨g, j * 2, none⟩ (.string f'.key)).setCell ⟨g, j * 2 + 1, none⟩ (.string f'.val)).setCell ⟨g, (j - 1) * 2, none⟩ (.string f.key)).setCell ⟨g, (j - 1) * 2 + 1, none⟩ (.string f.val)).drew = W4 at hA4 hP4 ⊢
            all_goals clear y1 y2 y3 k0 k1 k2 k3 z0 z1 z2 z3
            all_goals go_wp2_with fail
            all_goals go_roundw
            all_goals first
              | (simp [intOf]; omega)
              | exact ⟨j - 1, _, by omega, by go_num, hA4, hP4⟩
    · have hw2 := hz0.out
      go_wp2_with fail
      exact bodyPost_end (results_none rfl _ _ _) rfl ⟨rfl, ⟨zs0, hw2.1, hw2.2⟩, ha0.out⟩

set_option maxRecDepth 100000 in
theorem pdqsort (g n c : Nat) (lim : Int) (ys : List Kv) (w : World) (hy : ArrK w g n ys) (hn : n ≤ 12) :
    Calls Tryd.prog 33 #[.slice (some ⟨g, 0, none⟩) n c, .int .i64 0, .int .i64 n, .int .i64 lim, .func (.func 23) #[] #[]] w (SortLeft w g n ys) := by
  have HC := Lib.hid (insertion g n c ys w hy hn)
  clear hy
  go_enter Tryd.func33, Tryd.ntmps33
  go_wp2_with fail
  refine wp_loop_rounds 1 ?_
  rw [rounds_succ]
  go_wp2_with fail
  refine HC.out.mono ?_
  rintro e w2 h2
  obtain rfl := h2.1
  have H2 := Lib.hid h2
  clear h2 HC
  go_wp2_with fail
  exact bodyPost_ret (results_none rfl _ _ _) rfl H2.out
end Go.Proofs.YtkpcepdalegmmaaDoor
