/- Properties: spec.Sorted. -/
import Derived.Test.YtkpcepdalegmmaaDoorOrd
import Derived.Test.YtkpcepdalegmmaaDoorApart
import Derived.Deep.QuietTactic
import Derived.BigQuiet
import Derived.Deep.RegionHeld3
namespace Go.Proofs.YtkpcepdalegmmaaDoor
open Go.RowKit

theorem kvOne_ {xs : List Kv} : ∀ u ∈ kvCells xs, u.oneCell' = true := by
  intro u hu
  obtain ⟨f, _, hf⟩ := List.mem_flatMap.1 hu
  simp only [Kv.cells, List.mem_cons, List.not_mem_nil, or_false] at hf
  rcases hf with rfl | rfl <;> rfl
/-- A slice of properties, to be appended. -/
theorem srcK {w : World} {B n c : Nat} {A : Option Addr} {fs : List Kv} (h : KvS w B A n fs) : Src Tryd.prog 2 24 (.slice A n c) n (kvCells fs) w := by
  cases n with
  | zero =>
    have hl : fs = [] := List.eq_nil_of_length_eq_zero h.len
    subst hl
    cases A with
    | none => exact Src.ofNil w Tryd.underlying24 c
    | some ad => exact Src.ofSlice w Tryd.underlying24 ad 0 c [] rfl (fun j u hu => by simp at hu) (fun u hu => by cases hu)
  | succ n =>
    obtain ⟨ad, rfl, _, hc⟩ := h.2 (by omega)
    exact Src.ofSlice w Tryd.underlying24 ad (n + 1) c (kvCells fs) h.1 hc kvOne_
/-- The first elements of a row of the call's own. -/
theorem own_take {w : World} {base n c a : Nat} {A : Option Addr} {fs : List Kv} (h : w.ownsRow base 38 2 (.slice A n c) n (kvCells fs)) (ha : a ≤ n) : w.ownsRow base 38 2 (.slice A a c) a (kvCells (fs.take a)) := by
  have hl : fs.length = n := by have := h.1; rw [kvCells_length] at this; omega
  have ht : kvCells (fs.take a) = (kvCells fs).take (a * 2) := by
    have e : kvCells fs = kvCells (fs.take a) ++ kvCells (fs.drop a) := by
      unfold kvCells
      rw [← List.flatMap_append, List.take_append_drop]
    rw [e, List.take_left' (by rw [kvCells_length, List.length_take]; omega)]
  refine ⟨by rw [kvCells_length, List.length_take]; omega, ?_⟩
  rcases h.2 with ⟨hv, h0⟩ | ⟨g, cap, cur, hv, hb, hh, h1, h2, h3, h4⟩
  · injection hv with hA _ hc
    subst hA
    subst hc
    obtain rfl : a = 0 := by omega
    exact .inl ⟨rfl, rfl⟩
  · injection hv with hA _ hc
    subst hA
    subst hc
    refine .inr ⟨g, c, cur, rfl, hb, hh, by omega, h2, h3, ?_⟩
    rw [ht, ← h4, List.take_take, Nat.min_eq_left (by omega)]
theorem own_lit {w : World} {base : Nat} (hb : base ≤ w.heap.size) (f : Kv) : (w.alloc (.cells #[.string f.key, .string f.val] 38)).ownsRow base 38 2 (.slice (some ⟨w.heap.size, 0, none⟩) 1 1) 1 (kvCells [f]) :=
  ⟨rfl, .inr ⟨_, _, _, rfl, hb, heap_alloc_new w _, Nat.le_refl _, by decide, rfl, rfl⟩⟩
theorem run_slice_hiK {A : Option Addr} {n c hi : Nat} (h2 : hi ≤ c) (w : World) :
    (Instr.slice 24 (.slice A n c) none (some (.int .i64 hi)) none).run Tryd.prog w = .ok (.slice A hi c) w := by
  obtain ⟨z, hi0, hz⟩ := elSpecKv.i
  obtain ⟨i, hi1, hz0, hz1, hz2⟩ := info_parts hi0
  simp [Instr.slice, run_underlying elSpecKv.u, Instr.sliceBounds, Instr.sliceBound, asIntOf, sizeOf, typeInfo, hi1, h2, Addr.add]
/-- 's[k:]' of a slice of properties. -/
def cutV (A : Option Addr) (c k : Nat) : Option Addr := if c = k then A else A.map (·.add (k * 2))
theorem run_slice_loK {A : Option Addr} {n c lo : Nat} (h1 : lo ≤ n) (w : World) :
    (Instr.slice 24 (.slice A n c) (some (.int .i64 lo)) none none).run Tryd.prog w = .ok (.slice (cutV A c lo) (n - lo) (c - lo)) w := by
  obtain ⟨z, hi0, hz⟩ := elSpecKv.i
  obtain ⟨i, hi1, hz0, hz1, hz2⟩ := info_parts hi0
  simp [Instr.slice, run_underlying elSpecKv.u, Instr.sliceBounds, Instr.sliceBound, asIntOf, sizeOf, typeInfo, hi1, hz1, h1, cutV]
theorem KvS.cutV_ {w : World} {B n c k : Nat} {A : Option Addr} {fs : List Kv} (h : KvS w B A n fs) (hk : k ≤ n) (hc : n ≤ c) : KvS w B (cutV A c k) (n - k) (fs.drop k) := by
  have := Reads.cut h hk hc
  rw [kvCells_drop] at this
  exact this
theorem kvCells_append (a b : List Kv) : kvCells (a ++ b) = kvCells a ++ kvCells b := by simp [kvCells]
theorem take_snoc' {fs : List Kv} {k : Nat} {f : Kv} (h : fs[k]? = some f) : fs.take (k + 1) = fs.take k ++ [f] := by
  obtain ⟨h1, h2⟩ := List.getElem?_eq_some_iff.1 h
  rw [List.take_succ_eq_append_getElem h1, h2]
theorem row_ne_new {w : World} {base n c size : Nat} {e : TypeId} {A : Option Addr} {xs : List Value} (h : w.ownsRow base e size (.slice A n c) n xs) : some w.heap.size ≠ A.map (·.block) := fun e => by
  cases A with
  | none => cases e
  | some a2 =>
    have := World.ownsRow.lt h a2.block rfl
    simp at e
    omega
theorem own_cap {w : World} {base n c : Nat} {e : TypeId} {size : Nat} {A : Option Addr} {xs : List Value} (h : w.ownsRow base e size (.slice A n c) n xs) : n ≤ c := by
  rcases h.2 with ⟨hv, rfl⟩ | ⟨g, cap, cur, hv, _, _, r⟩
  · exact Nat.zero_le _
  · injection hv with _ _ hc
    rw [hc]
    exact r.1

set_option maxRecDepth 100000 in
set_option maxHeartbeats 8000000 in
theorem spec_Sorted (A : Option Addr) (n c : Nat) (fs : List Kv) (w : World) (hr : KvS w w.heap.size A n fs) (hn : n ≤ 10) :
    Calls Tryd.prog 10 #[.slice A n c] w fun e w' => ∃ A' c' ys, e = .returned (.slice A' n c') ∧ w'.ownsRow w.heap.size 38 2 (.slice A' n c') n (kvCells ys) ∧ ys.Perm fs ∧ SortedK ys ∧ Below w.heap.size w w' := by
  have hl := Lib.hid hr.len
  go_enter Tryd.func10, Tryd.ntmps10
  go_wp2_with fail
  go_loopw [3, 9] (fun v i wr => ∃ (k : Nat) (A' : Option Addr) (c' : Nat) (ys : List Kv), k ≤ n ∧ i = .int .i64 k ∧ v = .slice A' k c' ∧ Hid (wr.ownsRow w.heap.size 38 2 (.slice A' k c') k (kvCells ys)) ∧ Hid (ys.Perm (fs.take k) ∧ SortedK ys) ∧ Below w.heap.size w wr) (fun _ i _ => n - (intOf i).toNat)
  case atStart => exact ⟨0, none, 0, [], Nat.zero_le _, rfl, rfl, Lib.hid (World.ownsRow_nil w _ _ _), Lib.hid ⟨List.Perm.nil, List.Pairwise.nil⟩, Below.refl _ _⟩
  case round =>
    obtain ⟨k, A', c', ys, hk, rfl, rfl, ho, hys, hbl⟩ := hrel
    by_cases hkn : k < n
    · have hrw := hr.after hbl
      obtain ⟨ad, f, rfl, hadb, hf, h1, h2⟩ := hrw.at_ hkn
      have hf' := Lib.hid hf
      obtain ⟨key, val⟩ := f
      simp only at h1 h2
      have hH := Blk.new wr 38 #[.string key, .string val]
      have hbW : Below wr.heap.size wr (wr.alloc (.cells #[.string key, .string val] 38)) := (Below.refl _ _).alloc (Nat.le_refl _) _
      have hoW := Lib.hid (World.ownsRow.alloc ho.out (.cells #[.string key, .string val] 38))
      have hbl2 := hbl.alloc hbl.size (.cells #[.string key, .string val] 38)
      have hyl := Lib.hid (show ys.length = k by have := ho.out.1; rw [kvCells_length] at this; omega)
      have hkc := own_cap ho.out
      have hkc2 : k ≤ 9223372036854775807 := by omega
      have HH := Lib.hid hH
      clear hf hrw
      go_wp2_with fail
      clear h1 h2 hH
      generalize wr.alloc (.cells #[.string key, .string val] 38) = W at *
      have hWs : wr.heap.size < W.heap.size := HH.out.lt
      obtain ⟨wo, rfl⟩ : ∃ wo : World, wo = wr := ⟨_, rfl⟩
      go_loopw [6] (fun v V => ∃ (a nd : Nat), a ≤ k ∧ v = .int .i64 a ∧ V = W.drewN nd ∧ Hid (∀ j f, a ≤ j → ys[j]? = some f → gtK f.key key = true)) (fun v _ => (intOf v).toNat)
      case atStart => exact ⟨k, 0, Nat.le_refl _, rfl, rfl, Lib.hid (fun j f hj hf => by have := (List.getElem?_eq_some_iff.1 hf).1; have := hyl.out; omega)⟩
      case round =>
        obtain ⟨a, nd, ha, rfl, rfl, hgt⟩ := hrel
        by_cases ha0 : a = 0
        · have d3 : decide (0 < a) = false := decide_eq_false (by omega)
          have hlo : Hid (∀ f, 0 < a → ys[a - 1]? = some f → gtK f.key key = false) := Lib.hid (fun f h => by omega)
          clear ha0
          go_wp2_with fail
          go_quiet (fail)
          rename_i aK
          refine aK _ _ ?_
          go_wp2_with fail
          clear d3
          have hVW : Below W.heap.size W ((W.drewN nd).drewN nq) := below_drewN (below_drewN (Below.refl _ W) nd) nq
          obtain ⟨V, hV⟩ : ∃ V, V = (W.drewN nd).drewN nq := ⟨_, rfl⟩
          rw [← hV] at hVW ⊢
          have hoV : V.ownsRow w.heap.size 38 2 (.slice (A') k c') k (kvCells ys) := (Apart.of_below hVW).own hoW.out (ps := []) (fun _ _ => by simp)
          have hHV := HH.out.after hVW (Nat.le_refl _)
          have hblV := hbl2.trans (hVW.mono hbl2.size)
          clear hV hVW
          have sl1 := fun X => run_slice_hiK (A := (A')) (n := k) (c := c') (hi := a) (by omega) X
          have sl2 := fun X => run_slice_loK (A := (A')) (n := k) (c := c') (lo := a) ha X
          have hkV : KvS V V.heap.size (A') k ys := Reads.of_own hoV
          have hHne : some wo.heap.size ≠ (A').map (·.block) := row_ne_new ho.out
          have S_of : ∀ X, Below V.heap.size V X → X.cell? ⟨wo.heap.size, 0, none⟩ = some (.string key) ∧ X.cell? ⟨wo.heap.size, 1, none⟩ = some (.string val) := fun X hX =>
            ⟨(hHV.after hX (Nat.le_refl _)).cell 0, (hHV.after hX (Nat.le_refl _)).cell 1⟩
          have hL : Below V.heap.size V (V.drew.alloc (.cells #[.string key, .string val] 38)) := (Below.refl _ _).drew.alloc (Nat.le_refl _) _
          have hL2 : Below V.heap.size V (V.alloc (.cells #[.string key, .string val] 38)) := (Below.refl _ _).alloc (Nat.le_refl _) _
          have hcutS := (hkV.after hL).cutV_ (k := a) ha hkc
          have hwV : w.heap.size ≤ V.heap.size := hblV.size
          have HOV := Lib.hid hoV
          clear hoV hkV
          go_region_held3 (fun X => X.cell? ⟨wo.heap.size, 0, none⟩ = some (.string key) ∧ X.cell? ⟨wo.heap.size, 1, none⟩ = some (.string val))
            ((first | exact S_of _ (Below.refl _ _).drew | exact S_of _ hL | exact S_of _ hL2 | exact S_of _ hL2.drew | exact S_of _ hb2 | exact s4))
            (first
              | (with_reducible refine st_at 38 ?_
                 refine st_appT rfl elSpecKv (.tmp 34) (.tmp 37) 24 rfl V.heap.size (some ⟨V.heap.size, 0, none⟩) 1 1 (kvCells [⟨key, val⟩]) rfl (own_lit (w := V.drew) (Nat.le_refl _) ⟨key, val⟩) _ (k - a) (kvCells (ys.drop a)) rfl (srcK hcutS) (1 + (k - a)) rfl (by omega) (by decide) (by simp) ?_
                 intro A2 c2 w2 ho2 hg2 ha2
                 have hb2 : Below V.heap.size V w2 := hL.grown hg2 (by simp) (fun j hj => by cases hj; exact Nat.le_refl _)
                 have hs2 : KvS w2 w2.heap.size A2 (1 + (k - a)) (⟨key, val⟩ :: ys.drop a) := Reads.of_own ho2
                 have ho2' := own_take ((Apart.of_below hb2).own HOV.out (ps := []) (fun _ _ => by simp)) ha)
              | (with_reducible refine st_at 39 ?_
                 refine st_appT rfl elSpecKv (.tmp 32) (.tmp 38) 24 rfl w.heap.size (A') a c' (kvCells (ys.take a)) rfl ho2' _ (1 + (k - a)) (kvCells (⟨key, val⟩ :: ys.drop a)) rfl (srcK hs2) (k + 1) (by omega) (by omega) (by decide) (Nat.le_trans hwV hb2.size) ?_
                 intro A4 c4 w4 ho4 hg4 ha4
                 have s4 : w4.cell? ⟨wo.heap.size, 0, none⟩ = some (.string key) ∧ w4.cell? ⟨wo.heap.size, 1, none⟩ = some (.string val) := by
                   have s3 := S_of _ hb2
                   have hbk := hg4.block wo.heap.size (Nat.lt_of_lt_of_le hHV.lt hb2.size) hHne
                   exact ⟨(World.cell?_of_block hbk).trans s3.1, (World.cell?_of_block hbk).trans s3.2⟩
                 have hb4 : Below w.heap.size w w4 := (hblV.trans (hb2.mono hwV)).grown hg4 (Nat.le_trans hwV hb2.size) (fun g hg => own_base' ho.out hg)))
          have hnew : Hid (w4.ownsRow w.heap.size 38 2 (.slice A4 (k + 1) c4) (k + 1) (kvCells (ys.take a ++ (⟨key, val⟩ :: ys.drop a)))) := Lib.hid (by rw [kvCells_append]; exact ho4)
          have hperm : Hid ((ys.take a ++ (⟨key, val⟩ :: ys.drop a)).Perm (fs.take (k + 1)) ∧ SortedK (ys.take a ++ (⟨key, val⟩ :: ys.drop a))) := Lib.hid ⟨(ins_perm ys ⟨key, val⟩ a).trans (by rw [take_snoc' hf'.out]; exact (List.Perm.append_right _ hys.out.1)), ins_sorted (p := ⟨key, val⟩) hys.out.2 hlo.out hgt.out (by rw [hyl.out]; exact ha)⟩
          clear ho4 hg4 ha4 s4 hs2 ho2' ho2 hg2 ha2 hb2 hcutS sl1 sl2
          first
            | (rename_i bK _ _ _ _ _; refine bK _ _ ?_)
            | (rename_i bK _ _ _ _ _ _; refine bK _ _ ?_)
            | (rename_i bK _ _ _ _ _ _ _; refine bK _ _ ?_)
            | (rename_i bK _ _ _ _ _ _ _ _; refine bK _ _ ?_)
            | (rename_i bK _ _ _ _ _ _ _ _ _; refine bK _ _ ?_)
          go_wp2_with fail
          go_roundw
          case rel => exact ⟨k + 1, A4, c4, _, hkn, by go_num, rfl, hnew, hperm, hb4⟩
          case measure => simp [intOf]; omega
        · have d3 : decide (0 < a) = true := decide_eq_true (by omega)
          have hk1 : (1 : Int) ≤ (a : Int) := by omega
          have hk2 : (a : Int) - 1 < (k : Int) := by omega
          obtain ⟨ad', g, e1, hadb2, hg, p0, _⟩ := KvS.at_ (w := W) (B := W.heap.size) (A := A') (n := k) (fs := ys) (Reads.of_own hoW.out) (i := a - 1) (by omega)
          cases e1
          have hg' := Lib.hid hg
          clear hg
          cases h7 : gtK g.key key
          · have hlo : Hid (∀ f, 0 < a → ys[a - 1]? = some f → gtK f.key key = false) := Lib.hid (fun f _ h => by rw [hg'.out] at h; cases h; exact h7)
            have h8 : (Op.bytesLess g.key.toList key.toList || g.key.toList == key.toList) = true := by
              cases hh : (Op.bytesLess g.key.toList key.toList || g.key.toList == key.toList)
              · unfold gtK at h7
                rw [hh] at h7
                cases h7
              · rfl
            clear h7
            have q0 := HH.out.cell 0
            simp only [List.getElem?_toArray, List.getElem?_cons_zero] at q0
            go_wp2_with fail
            go_quiet (fail)
            rename_i aK
            refine aK _ _ ?_
            clear p0 h8 q0
            go_wp2_with fail
            clear d3
            have hVW : Below W.heap.size W ((W.drewN nd).drewN nq) := below_drewN (below_drewN (Below.refl _ W) nd) nq
            obtain ⟨V, hV⟩ : ∃ V, V = (W.drewN nd).drewN nq := ⟨_, rfl⟩
            rw [← hV] at hVW ⊢
            have hoV : V.ownsRow w.heap.size 38 2 (.slice (some ad') k c') k (kvCells ys) := (Apart.of_below hVW).own hoW.out (ps := []) (fun _ _ => by simp)
            have hHV := HH.out.after hVW (Nat.le_refl _)
            have hblV := hbl2.trans (hVW.mono hbl2.size)
            clear hV hVW
            have sl1 := fun X => run_slice_hiK (A := (some ad')) (n := k) (c := c') (hi := a) (by omega) X
            have sl2 := fun X => run_slice_loK (A := (some ad')) (n := k) (c := c') (lo := a) ha X
            have hkV : KvS V V.heap.size (some ad') k ys := Reads.of_own hoV
            have hHne : some wo.heap.size ≠ (some ad').map (·.block) := row_ne_new ho.out
            have S_of : ∀ X, Below V.heap.size V X → X.cell? ⟨wo.heap.size, 0, none⟩ = some (.string key) ∧ X.cell? ⟨wo.heap.size, 1, none⟩ = some (.string val) := fun X hX =>
              ⟨(hHV.after hX (Nat.le_refl _)).cell 0, (hHV.after hX (Nat.le_refl _)).cell 1⟩
            have hL : Below V.heap.size V (V.drew.alloc (.cells #[.string key, .string val] 38)) := (Below.refl _ _).drew.alloc (Nat.le_refl _) _
            have hL2 : Below V.heap.size V (V.alloc (.cells #[.string key, .string val] 38)) := (Below.refl _ _).alloc (Nat.le_refl _) _
            have hcutS := (hkV.after hL).cutV_ (k := a) ha hkc
            have hwV : w.heap.size ≤ V.heap.size := hblV.size
            have HOV := Lib.hid hoV
            clear hoV hkV
            go_region_held3 (fun X => X.cell? ⟨wo.heap.size, 0, none⟩ = some (.string key) ∧ X.cell? ⟨wo.heap.size, 1, none⟩ = some (.string val))
              ((first | exact S_of _ (Below.refl _ _).drew | exact S_of _ hL | exact S_of _ hL2 | exact S_of _ hL2.drew | exact S_of _ hb2 | exact s4))
              (first
                | (with_reducible refine st_at 38 ?_
                   refine st_appT rfl elSpecKv (.tmp 34) (.tmp 37) 24 rfl V.heap.size (some ⟨V.heap.size, 0, none⟩) 1 1 (kvCells [⟨key, val⟩]) rfl (own_lit (w := V.drew) (Nat.le_refl _) ⟨key, val⟩) _ (k - a) (kvCells (ys.drop a)) rfl (srcK hcutS) (1 + (k - a)) rfl (by omega) (by decide) (by simp) ?_
                   intro A2 c2 w2 ho2 hg2 ha2
                   have hb2 : Below V.heap.size V w2 := hL.grown hg2 (by simp) (fun j hj => by cases hj; exact Nat.le_refl _)
                   have hs2 : KvS w2 w2.heap.size A2 (1 + (k - a)) (⟨key, val⟩ :: ys.drop a) := Reads.of_own ho2
                   have ho2' := own_take ((Apart.of_below hb2).own HOV.out (ps := []) (fun _ _ => by simp)) ha)
                | (with_reducible refine st_at 39 ?_
                   refine st_appT rfl elSpecKv (.tmp 32) (.tmp 38) 24 rfl w.heap.size (some ad') a c' (kvCells (ys.take a)) rfl ho2' _ (1 + (k - a)) (kvCells (⟨key, val⟩ :: ys.drop a)) rfl (srcK hs2) (k + 1) (by omega) (by omega) (by decide) (Nat.le_trans hwV hb2.size) ?_
                   intro A4 c4 w4 ho4 hg4 ha4
                   have s4 : w4.cell? ⟨wo.heap.size, 0, none⟩ = some (.string key) ∧ w4.cell? ⟨wo.heap.size, 1, none⟩ = some (.string val) := by
                     have s3 := S_of _ hb2
                     have hbk := hg4.block wo.heap.size (Nat.lt_of_lt_of_le hHV.lt hb2.size) hHne
                     exact ⟨(World.cell?_of_block hbk).trans s3.1, (World.cell?_of_block hbk).trans s3.2⟩
                   have hb4 : Below w.heap.size w w4 := (hblV.trans (hb2.mono hwV)).grown hg4 (Nat.le_trans hwV hb2.size) (fun g hg => own_base' ho.out hg)))
            have hnew : Hid (w4.ownsRow w.heap.size 38 2 (.slice A4 (k + 1) c4) (k + 1) (kvCells (ys.take a ++ (⟨key, val⟩ :: ys.drop a)))) := Lib.hid (by rw [kvCells_append]; exact ho4)
            have hperm : Hid ((ys.take a ++ (⟨key, val⟩ :: ys.drop a)).Perm (fs.take (k + 1)) ∧ SortedK (ys.take a ++ (⟨key, val⟩ :: ys.drop a))) := Lib.hid ⟨(ins_perm ys ⟨key, val⟩ a).trans (by rw [take_snoc' hf'.out]; exact (List.Perm.append_right _ hys.out.1)), ins_sorted (p := ⟨key, val⟩) hys.out.2 hlo.out hgt.out (by rw [hyl.out]; exact ha)⟩
            clear ho4 hg4 ha4 s4 hs2 ho2' ho2 hg2 ha2 hb2 hcutS sl1 sl2
            first
              | (rename_i bK _ _ _ _ _; refine bK _ _ ?_)
              | (rename_i bK _ _ _ _ _ _; refine bK _ _ ?_)
              | (rename_i bK _ _ _ _ _ _ _; refine bK _ _ ?_)
              | (rename_i bK _ _ _ _ _ _ _ _; refine bK _ _ ?_)
              | (rename_i bK _ _ _ _ _ _ _ _ _; refine bK _ _ ?_)
            go_wp2_with fail
            go_roundw
            case rel => exact ⟨k + 1, A4, c4, _, hkn, by go_num, rfl, hnew, hperm, hb4⟩
            case measure => simp [intOf]; omega
          · have h8 : (Op.bytesLess g.key.toList key.toList || g.key.toList == key.toList) = false := by
              cases hh : (Op.bytesLess g.key.toList key.toList || g.key.toList == key.toList)
              · rfl
              · unfold gtK at h7
                rw [hh] at h7
                cases h7
            have hnx : Hid (∀ j f, a - 1 ≤ j → ys[j]? = some f → gtK f.key key = true) := Lib.hid (fun j f hj hf => by
              by_cases e : j = a - 1
              · rw [e, hg'.out] at hf
                cases hf
                exact h7
              · exact hgt.out j f (by omega) hf)
            clear h7
            have q0 := HH.out.cell 0
            simp only [List.getElem?_toArray, List.getElem?_cons_zero] at q0
            go_wp2_with fail
            go_quiet (fail)
            rename_i aK
            refine aK _ _ ?_
            go_wp2_with fail
            go_roundw
            case rel => exact ⟨a - 1, _, by omega, by go_num, rfl, hnx⟩
            case measure => simp [intOf]; omega
    · have hkn' : k = n := by omega
      have hys' := hys.out
      rw [List.take_of_length_le (by rw [hl.out]; omega)] at hys'
      have HY := Lib.hid hys'
      clear hys'
      subst hkn'
      go_wp2_with fail
      go_ret
      exact ⟨A', c', ys, rfl, ho.out, HY.out.1, HY.out.2, hbl⟩
end Go.Proofs.YtkpcepdalegmmaaDoor
