/- Properties: the names of a map, collected and sorted. -/
import Derived.Test.YtkpcepdalegmmaaDoorFmp
import Derived.Test.YtkpcepdalegmmaaDoorPmo
import Derived.Test.YtkpcepdalegmmaaDoorShf
import Derived.Sort.OwnSorted
namespace Go.Proofs.YtkpcepdalegmmaaDoor
open Go.RowKit

theorem elStr : Elem 68 9 1 16 := ⟨Tryd.underlying68, ⟨.string ⟨#[]⟩, by kernel_rfl, rfl⟩, by decide⟩
theorem enc_key (f : Kv) : encStr (keyL f) = .string f.key := by simp [encStr, keyL]
theorem enc_keys (kvs : List Kv) : (kvs.map keyL).map encStr = kvs.map fun f => Value.string f.key := by
  rw [List.map_map]
  exact List.map_congr_left fun f _ => enc_key f
/-- What sortedKeys hands back. -/
def SkOut (w : World) (kvs : List Kv) (e : Ending) (w' : World) : Prop :=
  ∃ A c, e = .returned (.slice A kvs.length c) ∧ w'.ownsRow w.heap.size 9 1 (.slice A kvs.length c) kvs.length (kvs.map fun f => .string f.key) ∧ Below w.heap.size w w'

set_option maxRecDepth 100000 in
set_option maxHeartbeats 4000000 in
theorem sortedKeys_ok (B n : Nat) (kvs : List Kv) (w : World) (hm : MapIs w B n (mdX kvs)) (hp : kvs.Pairwise (fun a b => keyL a ≠ keyL b)) (hs : (kvs.map keyL).Pairwise (fun a b => a ≤ b)) (h10 : n ≤ 10) :
    Calls Tryd.prog 36 #[.map (some B)] w (SkOut w kvs) := by
  have hbl := hm.lt
  have hcnt := MapIs.size_le hm
  have HP := Lib.hid (⟨hp, hs⟩ : _ ∧ _)
  clear hp hs
  go_enter Tryd.func36, Tryd.ntmps36
  go_wp2_with (first
    | (at_range
       refine wpList_range_own _ rfl _ 44 rfl 9 9 strKeyed Tryd.underlying44 _ B n (mdX kvs) rfl hm ?_
       intro w4 hrg4 hg4 hs4))
  go_frame
  have hb4 : Below w.heap.size w w4 := (Below.refl _ _).grown hg4 (Nat.le_refl _) (fun j hj => by cases hj)
  have HR0 := Lib.hid hrg4
  have HB0 := Lib.hid hb4
  clear hrg4 hg4 hs4 hm hb4
  go_loopw [3] (fun v wr => ∃ (left : Lit → Bool) (cnt : Nat) (ss : List (List UInt8)) (A : Option Addr) (c : Nat), v = .slice A ss.length c ∧ ss.length + cnt ≤ 10 ∧ Hid (RangesS wr B w.heap.size n (mdX kvs) left cnt) ∧ Hid (wr.ownsRow w.heap.size 9 1 (.slice A ss.length c) ss.length (ss.map encStr)) ∧ Hid (Collected (mdX kvs) left ss) ∧ Hid (Below w.heap.size w wr)) (fun _ wr => wr.rangeLeft B w.heap.size)
  case atStart => exact ⟨_, _, [], none, 0, rfl, by simp; omega, HR0, Lib.hid (World.ownsRow_nil _ _ _ _), Lib.hid (Collected.start _), HB0⟩
  case round =>
    obtain ⟨left, cnt, ss, A, c, rfl, hlen, hrg0, ho, hC, hb⟩ := hrel
    have hrg := hrg0.out
    unfold RangesS at hrg
    go_wp2_with (first
      | (at_next
         refine wpList_next_ranges _ rfl _ rfl 9 strKeyed (plainElem Tryd.prog 9) Go.Proofs.encStr Value.string (fun key kl hk => by obtain ⟨x, hx, _⟩ := Maps.keyOf_str Tryd.u_string hk; exact ⟨x, hx⟩) (fun v y hv => by obtain ⟨c, rfl, _⟩ := plainElem_string_inv Tryd.u_string hv; exact ⟨c, rfl⟩) B w.heap.size n _ _ _ rfl hrg ?_ ?_))
    · intro hc0 hl0
      have hperm := keys_perm HP.out.1 hC.out hl0
      have hsort := keys_sorted hperm HP.out.2
      have hl : ss.length = kvs.length := by rw [hperm.length_eq, List.length_map]
      have hbl2 : w.heap.size ≤ wr.heap.size := hb.out.size
      have HF := Lib.hid (⟨hsort, hl⟩ : _ ∧ _)
      rcases ho.out.2 with ⟨hnil, h0⟩ | ⟨g, cap, cur, hv, hbase, hbk, h1, h2, h3, h4⟩
      · injection hnil with hA _ hcap
        have hss : ss = [] := List.eq_nil_of_length_eq_zero h0
        subst hA hcap hss
        have hk0 : kvs = [] := List.eq_nil_of_length_eq_zero hl.symm
        subst hk0
        have hG : SkOut w [] (.returned (.slice none 0 0)) wr := ⟨none, 0, rfl, World.ownsRow_nil _ _ _ _, hb.out⟩
        have HG := Lib.hid hG
        clear hperm hsort hl HF h0 hG hc0 hl0 hrg hC ho hrg0 hcnt HP
        simp only [List.length_nil]
        go_wp2_with fail
        refine (Tryd.slices_Sort_string_none none 0 _).mono ?_
        rintro e w' ⟨rfl, rfl⟩
        go_wp2_with fail
        go_ret
        exact HG.out
      · injection hv with hA _ hcap
        subst hA hcap
        have hH : Sort.Holds encStr wr g 0 ss.toArray := holds_of_block hbk (by simpa using h4)
        have hgl : g < wr.heap.size := (Array.getElem?_eq_some_iff.1 hbk).1
        have hc := Tryd.slices_Sort_string g 0 c ss wr hH hgl (by omega)
        have HC := Lib.hid hc
        have HB := Lib.hid (⟨hbase, hbk, h1, h2, h3⟩ : _ ∧ _ ∧ _ ∧ _ ∧ _)
        clear hl hperm hsort hc0 hl0 hrg hC hrg0 hcnt HP hc hH h1 h2 h3 h4 hbk hbase
        go_wp2_with fail
        refine HC.out.mono ?_
        rintro e w' ⟨rfl, nn, os, rfl⟩
        have hown := ownsRow_sorted (os := os) (n := nn) (ss := ss) (ts := ss.mergeSort fun x y => decide (x ≤ y)) (by simp) HB.out.1 HB.out.2.1 HB.out.2.2.1 HB.out.2.2.2.1 HB.out.2.2.2.2
        have hbe : Below w.heap.size w (Sort.grow (Sort.putRow encStr (Sort.ahead wr nn) g 0 (ss.mergeSort fun x y => decide (x ≤ y)).toArray) os) := hb.out.grown (grownBy_sorted _) hb.out.size (fun j hj => by cases hj; exact HB.out.1)
        generalize Sort.grow (Sort.putRow encStr (Sort.ahead wr nn) g 0 (ss.mergeSort fun x y => decide (x ≤ y)).toArray) os = W at hown hbe ⊢
        rw [HF.out.1, enc_keys] at hown
        have HZ := Lib.hid (⟨hown, hbe⟩ : _ ∧ _)
        clear hown hbe HC ho
        go_wp2_with fail
        go_ret
        refine ⟨some ⟨g, 0, none⟩, c, ?_, ?_, HZ.out.2⟩
        · rw [← HF.out.2]
          rfl
        · have h := HZ.out.1
          rw [HF.out.2] at h
          exact h
    · intro x cv kl yd yp w5 cnt2 hkey hlk hv hat hrg2 hlt hg2 hs2 hen
      obtain ⟨x', ex, rfl, hxl⟩ := Maps.keyOf_str Tryd.u_string hkey
      obtain rfl : x = x' := encStr_inj ex
      have hC2 := hC.out.step hlk hat
      have hne : some w.heap.size ≠ A.map (·.block) := by
        have := row_ne_iter ho.out hrg
        cases A with
        | none => simp
        | some ad => exact this
      have own5 := ho.out.kept hg2 (Or.inr (row_ne_iter ho.out hrg).symm)
      have hb5 : Below w.heap.size w w5 := hb.out.grown hg2 hb.out.size (fun j hj => by cases hj; exact Nat.le_refl _)
      have hsrc := srcNew elStr (w := w5) #[.string ⟨x.toArray⟩] rfl (by simp [Value.oneCell'])
      have hsz5 : w.heap.size ≤ w5.heap.size := hb5.size
      have hcount : (ss.length + 1) + cnt2 ≤ 10 := by omega
      have hyl : ss.length ≤ 10 := by omega
      have HC := Lib.hid (⟨hC2, hrg2, hb5, hlt, hne⟩ : _ ∧ _ ∧ _ ∧ _ ∧ _)
      have HL := Lib.hid (World.ranges.left_eq hrg)
      clear hC2 hrg2 hb5 hlt hne hkey hlk hv hat hg2 hs2 hxl hrg ho hb hC hrg0
      unfold encStr at own5
      go_wp2_with (first
        | (at_builtin
           refine wpl_appT rfl elStr (.tmp 11) (.tmp 13) 68 rfl w.heap.size A ss.length c _ rfl (World.ownsRow.alloc own5 _) _ 1 [.string ⟨x.toArray⟩] rfl hsrc (ss.length + 1) rfl (by omega) (by decide) (by simp; omega) ?_
           intro A6 c6 w6 ho6 hg6 ha6))
      obtain ⟨hC2, hrg2, hb5, hlt, hne⟩ := HC.out
      have hAb : ∀ j, A.map (·.block) = some j → w.heap.size ≤ j := fun j hj => own_base' own5 hj
      have rg6 : RangesS w6 B w.heap.size n (mdX kvs) (fun z => left z && !z.sameKey (.string x)) cnt2 := ((hrg2.alloc _).kept hg6 (fun e => by have := hAb B e.symm; omega) hne)
      have hb6 : Below w.heap.size w w6 := (hb5.alloc hsz5 _).grown hg6 (by simp; omega) hAb
      have hF : Hid (RangesS w6 B w.heap.size n (mdX kvs) (fun z => left z && !z.sameKey (.string x)) cnt2) ∧ Hid (w6.ownsRow w.heap.size 9 1 (.slice A6 (ss ++ [x]).length c6) (ss ++ [x]).length ((ss ++ [x]).map encStr)) ∧ Hid (Collected (mdX kvs) (fun z => left z && !z.sameKey (.string x)) (ss ++ [x])) ∧ Hid (Below w.heap.size w w6) := by
        refine ⟨Lib.hid rg6, Lib.hid ?_, Lib.hid hC2, Lib.hid hb6⟩
        rw [List.length_append, List.map_append]
        exact ho6
      have hm6 := World.ranges.left_eq rg6
      clear hC2 hrg2 hb5 hne hAb rg6 hb6 ho6 hg6 ha6 own5 hsrc HC
      go_roundw
      case rel => exact ⟨_, cnt2, ss ++ [x], A6, c6, by simp, by simp; omega, hF⟩
      case measure => rw [hm6, HL.out]; exact hlt
end Go.Proofs.YtkpcepdalegmmaaDoor
