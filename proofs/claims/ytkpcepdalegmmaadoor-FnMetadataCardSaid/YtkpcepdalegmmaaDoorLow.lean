/- Properties: spec.Lowered, spec.Usual. -/
import Derived.Test.YtkpcepdalegmmaaDoorKv1
import Derived.Test.YtkpcepdalegmmaaDoorSmall
import Derived.Test.YtkpcepdalegmmaaDoorApart
import Derived.WideShapes
import Derived.Deep.RegionHeld3
namespace Go.Proofs.YtkpcepdalegmmaaDoor
open Go.RowKit

def smallK (f : Kv) : Kv := ⟨⟨(smallL f.key.data.toList).toArray⟩, f.val⟩
theorem map_snoc {α β : Type} (g : α → β) (l : List α) (k : Nat) (x : α) (h : l[k]? = some x) : (l.take (k + 1)).map g = (l.take k).map g ++ [g x] := by
  obtain ⟨h1, h2⟩ := List.getElem?_eq_some_iff.1 h
  rw [List.take_succ_eq_append_getElem h1, h2, List.map_append]
  rfl

set_option maxRecDepth 100000 in
theorem spec_Lowered (A : Option Addr) (n c : Nat) (fs : List Kv) (w : World) (hr : KvS w w.heap.size A n fs) (hn : n ≤ 2147483647) (hb : ∀ f ∈ fs, f.key.size ≤ 2147483647) :
    Calls Tryd.prog 11 #[.slice A n c] w fun e w' => ∃ A' c', e = .returned (.slice A' n c') ∧ w'.ownsRow w.heap.size 38 2 (.slice A' n c') n (kvCells (fs.map smallK)) ∧ Below w.heap.size w w' := by
  have hl := Lib.hid hr.len
  have HB := Lib.hid hb
  clear hb
  go_enter Tryd.func11, Tryd.ntmps11
  go_wp2_with fail
  go_loopw [3, 8] (fun v i wr => ∃ (k : Nat) (A' : Option Addr) (c' : Nat), k ≤ n ∧ i = .int .i64 k ∧ v = .slice A' k c' ∧ Hid (wr.ownsRow w.heap.size 38 2 (.slice A' k c') k (kvCells ((fs.take k).map smallK))) ∧ Below w.heap.size w wr) (fun _ i _ => n - (intOf i).toNat)
  case atStart => exact ⟨0, none, 0, Nat.zero_le _, rfl, rfl, Lib.hid (World.ownsRow_nil w _ _ _), Below.refl _ _⟩
  case round =>
    obtain ⟨k, A', c', hk, rfl, rfl, ho, hbl⟩ := hrel
    by_cases hkn : k < n
    · have hrw := hr.after hbl
      obtain ⟨ad, f, rfl, hadb, hf, h1, h2⟩ := hrw.at_ hkn
      have hks := HB.out f (List.mem_of_getElem? hf)
      have hmp := Lib.hid (map_snoc smallK fs k f hf)
      have hH := Blk.new wr 38 #[.string f.key, .string f.val]
      have hbW : Below wr.heap.size wr (wr.alloc (.cells #[.string f.key, .string f.val] 38)) := (Below.refl _ _).alloc (Nat.le_refl _) _
      have q0 := hH.cell 0
      have q1 := hH.cell 1
      simp only [List.getElem?_toArray, List.getElem?_cons_zero, List.getElem?_cons_succ] at q0 q1
      clear hf hrw
      go_wp2_with fail
      have hoW := Lib.hid (World.ownsRow.alloc ho.out (.cells #[.string f.key, .string f.val] 38))
      have hbl2 := hbl.alloc hbl.size (.cells #[.string f.key, .string f.val] 38)
      clear q0 q1 h1 h2
      generalize wr.alloc (.cells #[.string f.key, .string f.val] 38) = W at *
      have hbsz : w.heap.size ≤ W.heap.size := hbl2.size
      have S_of : ∀ V, Below W.heap.size W V → V.cell? ⟨wr.heap.size, 0, none⟩ = some (.string f.key) ∧ V.cell? ⟨wr.heap.size, 1, none⟩ = some (.string f.val) := fun V hV =>
        ⟨(hH.after hV (Nat.le_refl _)).cell 0, (hH.after hV (Nat.le_refl _)).cell 1⟩
      have hHlt := hH.lt
      have hHne : some wr.heap.size ≠ A'.map (·.block) := fun e => by
        have h := ho.out
        cases A' with
        | none => cases e
        | some a2 =>
          have := World.ownsRow.lt h a2.block rfl
          simp at e
          omega
      clear hH
      go_region_held3 (fun V => V.cell? ⟨wr.heap.size, 0, none⟩ = some (.string f.key) ∧ V.cell? ⟨wr.heap.size, 1, none⟩ = some (.string f.val))
        ((first | exact S_of _ (Below.refl _ _).drew | exact S_of _ hb2 | exact S_of _ hb3 | exact s4))
        (first
          | (go_at_call 16
             refine (spec_Small f.key _ hks).mono ?_
             rintro e w2 ⟨rfl, hb2'⟩
             have hb2 : Below W.heap.size W w2 := (Below.refl _ W).drew.trans hb2'
             have hb3 : Below W.heap.size W (w2.alloc (.cells #[.string ⟨(smallL f.key.data.toList).toArray⟩, .string f.val] 38)) := hb2.alloc hb2.size _
             have ho2 : w2.ownsRow w.heap.size 38 2 (.slice A' k c') k (kvCells ((fs.take k).map smallK)) := (Apart.of_below hb2).own hoW.out (ps := []) (fun _ _ => by simp)
             have hsrc := srcNew elSpecKv (w := w2) #[.string ⟨(smallL f.key.data.toList).toArray⟩, .string f.val] rfl (Kv.one (smallK f)))
          | (with_reducible refine st_at 20 ?_
             refine st_appT rfl elSpecKv (.tmp 12) (.tmp 19) 24 rfl w.heap.size _ k c' (kvCells ((fs.take k).map smallK)) rfl (ho2.alloc _) _ 1 [.string ⟨(smallL f.key.data.toList).toArray⟩, .string f.val] rfl hsrc (k + 1) rfl (by omega) (by decide) (by have := hb2.size; simp; omega) ?_
             intro A4 c4 w4 ho4 hg4 ha4
             have s4 : w4.cell? ⟨wr.heap.size, 0, none⟩ = some (.string f.key) ∧ w4.cell? ⟨wr.heap.size, 1, none⟩ = some (.string f.val) := by
               have s3 := S_of _ hb3
               have hbk := hg4.block wr.heap.size (by have := hb3.size; omega) hHne
               exact ⟨(World.cell?_of_block hbk).trans s3.1, (World.cell?_of_block hbk).trans s3.2⟩
             have hb4 : Below w.heap.size w w4 := (hbl2.trans (hb3.mono hbsz)).grown hg4 (by have := hb3.size; omega) (fun g hg => own_base' ho.out hg)))
      have ho5 : w4.ownsRow w.heap.size 38 2 (.slice A4 (k + 1) c4) (k + 1) (kvCells ((fs.take (k + 1)).map smallK)) := by
        rw [hmp.out, ← kvCells_snoc]
        exact ho4
      have HO5 := Lib.hid ho5
      clear ho4 ho5 hg4 ha4 s4 hsrc ho2 hb2 hb3
      rename_i aK _
      refine aK _ _ ?_
      go_wp2_with fail
      go_roundw
      case rel => exact ⟨k + 1, A4, c4, by omega, by go_num, rfl, HO5, hb4⟩
      case measure => simp [intOf]; omega
    · have hkn' : k = n := by omega
      have ho' := ho.out
      rw [List.take_of_length_le (by rw [hl.out]; omega)] at ho'
      have HO := Lib.hid ho'
      subst hkn'
      clear ho'
      go_wp2_with fail
      go_ret
      exact ⟨A', c', rfl, HO.out, hbl⟩

def idS : ByteArray := ⟨#[73, 100, 101, 110, 116, 105, 116, 121]⟩
def stS : ByteArray := ⟨#[83, 111, 99, 107, 101, 116, 45, 84, 121, 112, 101]⟩
theorem eq_toList {a : ByteArray} {l : List UInt8} (h : a.toList = l) : a = ⟨l.toArray⟩ := by
  rw [ByteArray.toList_eq] at h
  exact Go.WideShapes.bytes_inj (by rw [h])
def usualK (f : Kv) : Prop := f.key = idS ∨ f.key = stS
/-- What Usual answers. -/
def ToldU (w : World) (fs : List Kv) (e : Ending) (w' : World) : Prop := ∃ b : Bool, e = .returned (.bool b) ∧ (b = true → ∀ f ∈ fs, usualK f) ∧ Below w.heap.size w w'
set_option maxRecDepth 100000 in
theorem spec_Usual (A : Option Addr) (n c : Nat) (fs : List Kv) (w : World) (hr : KvS w w.heap.size A n fs) (hn : n ≤ 2147483647) :
    Calls Tryd.prog 12 #[.slice A n c] w (ToldU w fs) := by
  have hl := Lib.hid hr.len
  go_enter Tryd.func12, Tryd.ntmps12
  go_wp2_with fail
  go_loopw [7] (fun i wr => ∃ (k : Nat), k ≤ n ∧ i = .int .i64 k ∧ Hid (∀ i f, i < k → fs[i]? = some f → usualK f) ∧ Below w.heap.size w wr) (fun i _ => n - (intOf i).toNat)
  case atStart => exact ⟨0, Nat.zero_le _, rfl, Lib.hid (fun i f h => by omega), Below.refl _ _⟩
  case round =>
    obtain ⟨k, hk, rfl, hup, hbl⟩ := hrel
    by_cases hkn : k < n
    · obtain ⟨ad, f, rfl, hadb, hf, h1, h2⟩ := (hr.after hbl).at_ hkn
      have hf' := Lib.hid hf
      obtain ⟨key, val⟩ := f
      simp only at h1 h2
      have hbl2 := hbl.alloc hbl.size (.cells #[.string key, .string val] 38)
      have hk1 : k + 1 ≤ n := hkn
      clear hf
      have nxt : usualK ⟨key, val⟩ → Hid (∀ i f, i < k + 1 → fs[i]? = some f → usualK f) := fun hu => Lib.hid fun i g hi hg => by
        by_cases e : i = k
        · subst e
          rw [hf'.out] at hg
          cases hg
          exact hu
        · exact hup.out i g (by omega) hg
      have NX := Lib.hid nxt
      clear nxt
      by_cases e1 : key = idS
      · have h3 := NX.out (.inl e1)
        subst e1
        unfold idS at *
        go_wp2_with fail
        go_roundw
        case rel => exact ⟨k + 1, hk1, by go_num, h3, hbl2⟩
        case measure => simp [intOf]; omega
      · by_cases e2 : key = stS
        · have h3 := NX.out (.inr e2)
          subst e2
          unfold stS at *
          go_wp2_with fail
          go_roundw
          case rel => exact ⟨k + 1, hk1, by go_num, h3, hbl2⟩
          case measure => simp [intOf]; omega
        · have d1 : ¬ key.toList = [73, 100, 101, 110, 116, 105, 116, 121] := fun e => e1 (eq_toList e)
          have d2 : ¬ key.toList = [83, 111, 99, 107, 101, 116, 45, 84, 121, 112, 101] := fun e => e2 (eq_toList e)
          have b1 : (key.toList == [73, 100, 101, 110, 116, 105, 116, 121]) = false := beq_eq_false_iff_ne.2 d1
          have b2 : (key.toList == [83, 111, 99, 107, 101, 116, 45, 84, 121, 112, 101]) = false := beq_eq_false_iff_ne.2 d2
          clear e1 e2 d1 d2
          go_wp2_with fail
          go_ret
          exact ⟨false, rfl, (fun h => by cases h), hbl2⟩
    · have hkn' : k = n := by omega
      have hfin : ∀ f ∈ fs, usualK f := fun f hf => by
        obtain ⟨i, hi, e⟩ := List.mem_iff_getElem.1 hf
        exact hup.out i f (by rw [hl.out] at hi; omega) (by rw [List.getElem?_eq_getElem hi, e])
      have HF := Lib.hid hfin
      subst hkn'
      clear hfin
      go_wp2_with fail
      go_ret
      exact ⟨true, rfl, fun _ => HF.out, hbl⟩
end Go.Proofs.YtkpcepdalegmmaaDoor
