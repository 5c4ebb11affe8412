/- Properties: spec.Properties. -/
import Derived.Test.YtkpcepdalegmmaaDoorKv1
import Derived.Test.YtkpcepdalegmmaaDoorName
import Derived.Test.YtkpcepdalegmmaaDoorSmall
import Derived.Deep.QuietTactic
import Derived.BigQuiet
import Derived.Deep.RegionHeld3
namespace Go.Proofs.YtkpcepdalegmmaaDoor
open Go.RowKit

def smallS (s : ByteArray) : ByteArray := ⟨(smallL s.data.toList).toArray⟩
def kvLess (a b : ByteArray) : Bool := Op.bytesLess a.toList b.toList
def kvOne (f : Kv) : Prop := nameOk f.key = true ∧ f.key.size ≤ 100 ∧ f.val.size ≤ 300
def kvTwo (f g : Kv) : Prop := kvLess f.key g.key = true ∧ kvLess (smallS f.key) (smallS g.key) = true
/-- What is known of the first k properties. -/
def KvUpto (fs : List Kv) (k : Nat) : Prop := (∀ i f, i < k → fs[i]? = some f → kvOne f) ∧ ∀ i f g, i + 1 < k → fs[i]? = some f → fs[i + 1]? = some g → kvTwo f g
/-- Properties that are compared. -/
def KvGood (fs : List Kv) : Prop := KvUpto fs fs.length ∧ fs.length ≤ 10

theorem KvUpto.zero (fs : List Kv) : KvUpto fs 0 := ⟨fun i f h => by omega, fun i f g h => by omega⟩
theorem KvUpto.next {fs : List Kv} {k : Nat} {f : Kv} (h : KvUpto fs k) (hf : fs[k]? = some f) (h1 : kvOne f) (h2 : ∀ g, 0 < k → fs[k - 1]? = some g → kvTwo g f) : KvUpto fs (k + 1) := by
  refine ⟨fun i g hi hg => ?_, fun i g g' hi hg hg' => ?_⟩
  · by_cases e : i = k
    · subst e
      rw [hf] at hg
      cases hg
      exact h1
    · exact h.1 i g (by omega) hg
  · by_cases e : i + 1 = k
    · subst e
      rw [hf] at hg'
      cases hg'
      exact h2 g (by omega) hg
    · exact h.2 i g g' (by omega) hg hg'
/-- What Properties answers. -/
def Told (w : World) (fs : List Kv) (e : Ending) (w' : World) : Prop := ∃ b : Bool, e = .returned (.bool b) ∧ (b = true → KvGood fs) ∧ Below w.heap.size w w'

theorem name_quiet (s : ByteArray) (w : World) (hs : s.size ≤ 2147483647) : Calls Tryd.prog 15 #[.string s] w fun e w' => e = .returned (.bool (nameOk s)) ∧ w' = w :=
  (spec_Name s w hs).mono fun _ _ ⟨a, b⟩ => ⟨a, b.symm⟩

set_option maxRecDepth 100000 in
set_option maxHeartbeats 8000000 in
theorem spec_Properties (A : Option Addr) (n c : Nat) (fs : List Kv) (w : World) (hr : KvS w w.heap.size A n fs) (hn : n ≤ 2147483647) (hb : ∀ f ∈ fs, f.key.size ≤ 2147483647 ∧ f.val.size ≤ 2147483647) :
    Calls Tryd.prog 6 #[.slice A n c] w (Told w fs) := by
  have hl := Lib.hid hr.len
  have HB := Lib.hid hb
  clear hb
  go_enter Tryd.func6, Tryd.ntmps6
  go_wp2_with fail
  go_loopw [7] (fun i wr => ∃ (k : Nat), k ≤ n ∧ i = .int .i64 k ∧ Hid (KvUpto fs k) ∧ Below w.heap.size w wr) (fun i _ => n - (intOf i).toNat)
  case atStart => exact ⟨0, Nat.zero_le _, rfl, Lib.hid (KvUpto.zero fs), Below.refl _ _⟩
  case round =>
    obtain ⟨k, hk, rfl, hup, hbl⟩ := hrel
    by_cases hkn : k < n
    · have hrw := hr.after hbl
      obtain ⟨ad, f, e0, hadb, hf, h1, h2⟩ := hrw.at_ hkn
      have hbf := HB.out f (List.mem_of_getElem? hf)
      have hf' := Lib.hid hf
      have hks := hbf.1
      have hvs := hbf.2
      obtain ⟨key, val⟩ := f
      simp only at h1 h2 hks hvs
      subst e0
      have hbl2 := hbl.alloc hbl.size (.cells #[.string key, .string val] 38)
      have hW : Below wr.heap.size wr (wr.alloc (.cells #[.string key, .string val] 38)) := (Below.refl _ _).alloc (Nat.le_refl _) _
      have hH := Blk.new wr 38 #[.string key, .string val]
      have q0 := hH.cell 0
      have q1 := hH.cell 1
      simp only [List.getElem?_toArray, List.getElem?_cons_zero, List.getElem?_cons_succ] at q0 q1
      clear hf hbf hrw
      cases hnm : nameOk key
      · go_wp2_with fail
        go_quiet ((go_at_call 15; exact Calls.quiet_of_same (name_quiet _ _ (by omega))))
        rename_i aK
        refine aK _ _ ?_
        go_wp2_with fail
        go_ret
        exact ⟨false, rfl, (fun h => by cases h), below_drewN hbl2 _⟩
      · by_cases hk100 : 100 < key.size
        · have d1 : decide ((100 : Int) < (key.size : Int)) = true := decide_eq_true (by omega)
          go_wp2_with fail
          go_quiet ((go_at_call 15; exact Calls.quiet_of_same (name_quiet _ _ (by omega))))
          rename_i aK
          refine aK _ _ ?_
          go_wp2_with fail
          go_ret
          exact ⟨false, rfl, (fun h => by cases h), below_drewN hbl2 _⟩
        · have d1 : decide ((100 : Int) < (key.size : Int)) = false := decide_eq_false (by omega)
          by_cases hv300 : 300 < val.size
          · have d2 : decide ((300 : Int) < (val.size : Int)) = true := decide_eq_true (by omega)
            go_wp2_with fail
            go_quiet ((go_at_call 15; exact Calls.quiet_of_same (name_quiet _ _ (by omega))))
            rename_i aK
            refine aK _ _ ?_
            go_wp2_with fail
            go_ret
            exact ⟨false, rfl, (fun h => by cases h), below_drewN hbl2 _⟩
          · have d2 : decide ((300 : Int) < (val.size : Int)) = false := decide_eq_false (by omega)
            have hone : kvOne ⟨key, val⟩ := ⟨hnm, Nat.not_lt.1 hk100, Nat.not_lt.1 hv300⟩
            have HO := Lib.hid hone
            clear hone
            by_cases hk0 : k = 0
            · have d3 : decide (0 < k) = false := decide_eq_false (by omega)
              have hnx := Lib.hid (hup.out.next hf'.out HO.out (fun g h => by omega))
              have hk1 : k + 1 ≤ n := hkn
              clear hk0
              go_wp2_with fail
              go_quiet ((go_at_call 15; exact Calls.quiet_of_same (name_quiet _ _ (by omega))))
              rename_i aK
              refine aK _ _ ?_
              go_wp2_with fail
              go_roundw
              case rel => exact ⟨k + 1, hk1, by go_num, hnx, below_drewN hbl2 _⟩
              case measure => simp [intOf]; omega
            · have d3 : decide (0 < k) = true := decide_eq_true (by omega)
              have hk1 : (1 : Int) ≤ (k : Int) := by omega
              have hk2 : (k : Int) - 1 < (n : Int) := by omega
              obtain ⟨ad', g, e1, _, hg, p0, _⟩ := (hr.after hbl).at_ (i := k - 1) (by omega)
              cases e1
              have p1 := (World.cell?_of_block (Below.heap_alloc wr (.cells #[.string key, .string val] 38) (ad.add ((k - 1) * 2)).block (by rw [block_of_add]; exact hadb))).trans p0
              have hgs := (HB.out g (List.mem_of_getElem? hg)).1
              have hg' := Lib.hid hg
              clear hg p0
              cases hge : Op.bytesLess g.key.toList key.toList
              · go_wp2_with fail
                go_quiet ((go_at_call 15; exact Calls.quiet_of_same (name_quiet _ _ (by omega))))
                rename_i aK
                refine aK _ _ ?_
                go_wp2_with fail
                go_ret
                exact ⟨false, rfl, (fun h => by cases h), below_drewN hbl2 _⟩
              · have hlen := hgs
                have c1 : ∀ W, Calls Tryd.prog 16 #[.string g.key] W fun e w' => e = .returned (.string (smallS g.key)) ∧ Below W.heap.size W w' := fun W => spec_Small g.key W hgs
                have c2 : ∀ W, Calls Tryd.prog 16 #[.string key] W fun e w' => e = .returned (.string (smallS key)) ∧ Below W.heap.size W w' := fun W => spec_Small key W hks
                obtain ⟨s1, hs1⟩ : ∃ s1, s1 = smallS g.key := ⟨_, rfl⟩
                obtain ⟨s2, hs2⟩ : ∃ s2, s2 = smallS key := ⟨_, rfl⟩
                rw [← hs1] at c1
                rw [← hs2] at c2
                have htwo : Op.bytesLess s1.toList s2.toList = true → kvTwo g ⟨key, val⟩ := fun h => ⟨hge, by rw [hs1, hs2] at h; exact h⟩
                have HT := Lib.hid htwo
                have C1 := Lib.hid c1
                have C2 := Lib.hid c2
                have HFA := Lib.hid (fun (h : kvTwo g ⟨key, val⟩) => hup.out.next hf'.out HO.out (fun g2 _ hg2 => by rw [hg'.out] at hg2; cases hg2; exact h))
                have S_of : ∀ V, Below (wr.alloc (.cells #[.string key, .string val] 38)).heap.size (wr.alloc (.cells #[.string key, .string val] 38)) V → V.cell? ⟨wr.heap.size, 0, none⟩ = some (.string key) ∧ V.cell? ⟨wr.heap.size, 1, none⟩ = some (.string val) ∧ V.cell? (ad.add ((k - 1) * 2)) = some (.string g.key) := fun V hV =>
                  ⟨(hH.after hV (Nat.le_refl _)).cell 0, (hH.after hV (Nat.le_refl _)).cell 1, (hV.cell (by rw [block_of_add, World.size_alloc]; omega)).trans p1⟩
                clear htwo c1 c2 hs1 hs2
                cases hss : Op.bytesLess s1.toList s2.toList
                · go_wp2_with fail
                  clear hH
                  generalize wr.alloc (.cells #[.string key, .string val] 38) = W at *
                  have y1 : IntKind.i64.wrap ((k : Int) - 1) = (k : Int) - 1 := by rw [IntKind.wrap_i64]; omega
                  have y2 : (0 : Int) ≤ (k : Int) - 1 := by omega
                  have y3 : ((k : Int) - 1).toNat = k - 1 := by omega
                  go_region_held3 (fun V => V.cell? ⟨wr.heap.size, 0, none⟩ = some (.string key) ∧ V.cell? ⟨wr.heap.size, 1, none⟩ = some (.string val) ∧ V.cell? (ad.add ((k - 1) * 2)) = some (.string g.key))
                    ((first | exact S_of _ (Below.refl _ _).drew | exact S_of _ (by assumption)))
                    (first
                      | (go_at_call 15
                         refine (name_quiet _ _ hks).mono ?_
                         rintro e w1 ⟨rfl, rfl⟩)
                      | (go_at_call 16
                         (with_reducible refine (C1.out _).mono ?_)
                         rintro e w2 ⟨rfl, hb2⟩
                         have hb12 : Below W.heap.size W w2 := (Below.refl _ W).drew.trans hb2)
                      | (go_at_call 16
                         (with_reducible refine (C2.out _).mono ?_)
                         rintro e w3 ⟨rfl, hb3⟩
                         have hb13 : Below W.heap.size W w3 := below_seq hb12 hb3 hb12.size))
                  rename_i aK _
                  refine aK _ _ ?_
                  clear y1 y3
                  go_wp2_with fail
                  go_ret
                  exact ⟨false, rfl, (fun h => by cases h), below_seq hbl2 hb13 hbl2.size⟩
                · go_wp2_with fail
                  clear hH
                  generalize wr.alloc (.cells #[.string key, .string val] 38) = W at *
                  have y1 : IntKind.i64.wrap ((k : Int) - 1) = (k : Int) - 1 := by rw [IntKind.wrap_i64]; omega
                  have y2 : (0 : Int) ≤ (k : Int) - 1 := by omega
                  have y3 : ((k : Int) - 1).toNat = k - 1 := by omega
                  go_region_held3 (fun V => V.cell? ⟨wr.heap.size, 0, none⟩ = some (.string key) ∧ V.cell? ⟨wr.heap.size, 1, none⟩ = some (.string val) ∧ V.cell? (ad.add ((k - 1) * 2)) = some (.string g.key))
                    ((first | exact S_of _ (Below.refl _ _).drew | exact S_of _ (by assumption)))
                    (first
                      | (go_at_call 15
                         refine (name_quiet _ _ hks).mono ?_
                         rintro e w1 ⟨rfl, rfl⟩)
                      | (go_at_call 16
                         (with_reducible refine (C1.out _).mono ?_)
                         rintro e w2 ⟨rfl, hb2⟩
                         have hb12 : Below W.heap.size W w2 := (Below.refl _ W).drew.trans hb2)
                      | (go_at_call 16
                         (with_reducible refine (C2.out _).mono ?_)
                         rintro e w3 ⟨rfl, hb3⟩
                         have hb13 : Below W.heap.size W w3 := below_seq hb12 hb3 hb12.size))
                  rename_i aK _
                  refine aK _ _ ?_
                  clear y1 y3
                  have hnx := Lib.hid (HFA.out (HT.out hss))
                  have hk3 : k + 1 ≤ n := hkn
                  go_wp2_with fail
                  go_roundw
                  case rel => exact ⟨k + 1, hk3, by go_num, hnx, below_seq hbl2 hb13 hbl2.size⟩
                  case measure => simp [intOf]; omega
    · have hkn' : k = n := by omega
      have hfin := hup.out
      rw [show k = fs.length by rw [hl.out]; omega] at hfin
      have HF := Lib.hid hfin
      subst hkn'
      clear hfin
      by_cases h10 : k ≤ 10
      · have d1 : decide ((k : Int) ≤ 10) = true := decide_eq_true (by omega)
        go_wp2_with fail
        go_ret
        exact ⟨true, rfl, fun _ => ⟨HF.out, by rw [hl.out]; exact h10⟩, hbl⟩
      · have d1 : decide ((k : Int) ≤ 10) = false := decide_eq_false (by omega)
        go_wp2_with fail
        go_ret
        exact ⟨false, rfl, (fun h => by cases h), hbl⟩
end Go.Proofs.YtkpcepdalegmmaaDoor
