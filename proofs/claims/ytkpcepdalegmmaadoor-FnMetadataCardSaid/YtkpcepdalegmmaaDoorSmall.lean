/- Properties: spec.Small. -/
import Derived.Test.YtkpcepdalegmmaaDoorWb
namespace Go.Proofs.YtkpcepdalegmmaaDoor
open Go.RowKit

/-- Small letters. -/
def smallB (c : UInt8) : UInt8 := if 65 ≤ c.toNat ∧ c.toNat ≤ 90 then c + 32 else c
def smallL (l : List UInt8) : List UInt8 := l.map smallB
theorem small_add {c : UInt8} (h : c.toNat ≤ 90) : (c.toNat : Int) + 97 - 65 = ((c + 32).toNat : Int) := by
  have : (c + 32).toNat = c.toNat + 32 := by rw [UInt8.toNat_add]; simp; omega
  rw [this]; omega
theorem cut_at {l pre : List UInt8} {k : Nat} (hp : pre.length = k) : (pre ++ l.drop k).length = k + (l.length - k) := by simp [hp]
theorem cut_get {l pre : List UInt8} {k : Nat} (hp : pre.length = k) : (pre ++ l.drop k).getD k 0 = l.getD k 0 := by
  rw [List.getD_eq_getElem?_getD, List.getElem?_append_right (by omega), List.getElem?_drop, hp, Nat.sub_self, Nat.add_zero, ← List.getD_eq_getElem?_getD]
theorem cut_next {l pre : List UInt8} {k : Nat} (hk : k < l.length) : pre ++ l.drop k = (pre ++ [l.getD k 0]) ++ l.drop (k + 1) := by
  rw [List.append_assoc, List.drop_eq_getElem_cons hk, List.getD_eq_getElem?_getD, List.getElem?_eq_getElem hk]
  rfl
theorem cut_set {l pre : List UInt8} {k : Nat} (hp : pre.length = k) (hk : k < l.length) (b : UInt8) : (pre ++ l.drop k).set k b = (pre ++ [b]) ++ l.drop (k + 1) := by
  rw [List.set_append_right _ _ (by omega), hp, Nat.sub_self, List.drop_eq_getElem_cons hk, List.set_cons_zero, List.append_assoc]
  rfl
theorem drop_getD {l : List UInt8} {k : Nat} (hk : k < l.length) : l.drop k = l.getD k 0 :: l.drop (k + 1) := by
  rw [List.drop_eq_getElem_cons hk, List.getD_eq_getElem?_getD, List.getElem?_eq_getElem hk]
  rfl

set_option maxRecDepth 100000 in
theorem spec_Small (s : ByteArray) (w : World) (hs : s.size ≤ 2147483647) :
    Calls Tryd.prog 16 #[.string s] w fun e w' => e = .returned (.string ⟨(smallL s.data.toList).toArray⟩) ∧ Below w.heap.size w w' := by
  obtain ⟨l, hl⟩ : ∃ l, l = s.data.toList := ⟨_, rfl⟩
  have hln : l.length = s.size := by rw [hl]; simp
  have HL := Lib.hid hln
  have HS := Lib.hid hl
  go_enter Tryd.func16, Tryd.ntmps16
  clear hln
  go_wp2_with (first
    | (with_reducible refine wpl_ofStrW rfl (.tmp 6) rfl s rfl ?_
       intro c w1 hW hB hc
       rw [← HS.out] at hW))
  clear hl
  have hgl := hW.lt
  have HW := Lib.hid hW
  clear hW
  go_loopw [10] (fun i wr => ∃ (k : Nat) (pre : List UInt8), k ≤ s.size ∧ i = .int .i64 k ∧ Hid (pre.length = k) ∧ Hid (pre ++ smallL (l.drop k) = smallL l) ∧ Hid (WB wr w.heap.size (pre ++ l.drop k)) ∧ Below w.heap.size w wr) (fun i _ => s.size - (intOf i).toNat)
  case atStart => exact ⟨0, [], Nat.zero_le _, rfl, Lib.hid rfl, Lib.hid rfl, HW, hB⟩
  case round =>
    obtain ⟨k, pre, hk, rfl, hp, hsm, hwb, hbl⟩ := hrel
    by_cases hlt : k < s.size
    · have hkl : k < l.length := by rw [HL.out]; exact hlt
      have c0 := hwb.out.at_ (j := k) (by rw [cut_at hp.out]; omega)
      have f0 := hwb.out.free (j := k) (by rw [cut_at hp.out]; omega)
      rw [cut_get hp.out] at c0
      have hnx := Lib.hid (cut_next (pre := pre) hkl)
      have hst := Lib.hid (cut_set hp.out hkl)
      have hdr := Lib.hid (drop_getD hkl)
      generalize l.getD k 0 = x at c0 hnx hdr
      have hx : x.toNat < 256 := x.toNat_lt
      clear hkl
      rcases (show x.toNat ≤ 64 ∨ (65 ≤ x.toNat ∧ x.toNat ≤ 90) ∨ 91 ≤ x.toNat by omega) with h | h | h
      · have hb : smallB x = x := if_neg (by omega)
        have HB := Lib.hid hb
        clear hb
        go_wp2_with fail
        go_roundw
        case rel => exact ⟨k + 1, pre ++ [x], by omega, by go_num, Lib.hid (by have := hp.out; simp; omega), Lib.hid (by rw [← hsm.out, hdr.out]; simp [smallL, HB.out]), Lib.hid (by rw [← hnx.out]; exact hwb.out), hbl⟩
        case measure => simp [intOf]; omega
      · have hb : smallB x = x + 32 := if_pos h
        have HB := Lib.hid hb
        clear hb
        obtain ⟨h1, h2⟩ := h
        go_wp2_with fail
        go_roundw
        case rel =>
          have hw2 := hwb.out.set (i := k) (x + 32) _ (small_add h2)
          rw [hst.out] at hw2
          exact ⟨k + 1, pre ++ [x + 32], by omega, by go_num, Lib.hid (by have := hp.out; simp; omega), Lib.hid (by rw [← hsm.out, hdr.out]; simp [smallL, HB.out]), Lib.hid hw2, below_setN hbl (Nat.le_refl _) _⟩
        case measure => simp [intOf]; omega
      · have hb : smallB x = x := if_neg (by omega)
        have HB := Lib.hid hb
        clear hb
        go_wp2_with fail
        go_roundw
        case rel => exact ⟨k + 1, pre ++ [x], by omega, by go_num, Lib.hid (by have := hp.out; simp; omega), Lib.hid (by rw [← hsm.out, hdr.out]; simp [smallL, HB.out]), Lib.hid (by rw [← hnx.out]; exact hwb.out), hbl⟩
        case measure => simp [intOf]; omega
    · have hkn : k = s.size := by omega
      have hpre : pre = smallL l := by
        have := hsm.out
        rw [List.drop_eq_nil_of_le (by rw [HL.out]; omega)] at this
        simpa [smallL] using this
      have hw2 := hwb.out
      rw [List.drop_eq_nil_of_le (by rw [HL.out]; omega), List.append_nil, hpre] at hw2
      have hr := hw2.rb (n := s.size) (by rw [← HL.out]; simp [smallL])
      have hstr := run_strB (c := c) hr
      rw [HS.out] at hstr
      subst hkn
      clear hpre hw2 hr
      go_wp2_with fail
      go_ret
      exact ⟨rfl, hbl⟩
end Go.Proofs.YtkpcepdalegmmaaDoor
