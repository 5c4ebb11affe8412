/- spec.Name, spec.Mechanism: whether a text is the name of a command, of a mechanism. (printed by gen_name.py) -/
import Derived.Test.YtkpcepdalegmmaaDoorBytes
namespace Go.Proofs.YtkpcepdalegmmaaDoor
open Go.RowKit

theorem take_snoc (s : ByteArray) (k : Nat) (h : k < s.size) : s.data.toList.take (k + 1) = s.data.toList.take k ++ [s[k]] := by
  rw [List.take_succ_eq_append_getElem (by simpa using h)]; rfl
theorem ret_bool {a b : Bool} (h : a = b) : Ending.returned (.bool a) = .returned (.bool b) := by rw [h]
theorem ne_lit {c : Nat} {x : Int} (h : (c : Int) < x ∨ x < (c : Int)) : ((c : Int) != x) = true := by rw [bne_iff_ne]; omega
theorem eq_lit {c : Nat} {x : Int} (h : x ≤ (c : Int) ∧ (c : Int) ≤ x) : ((c : Int) != x) = false := by rw [bne_eq_false_iff_eq]; omega
theorem all_snoc {p : UInt8 → Bool} {s : ByteArray} {k : Nat} (h : k < s.size) (ha : (s.data.toList.take k).all p = true) (hb : p s[k] = true) : (s.data.toList.take (k + 1)).all p = true := by
  rw [take_snoc s k h, List.all_append, ha, List.all_cons, hb]; rfl
theorem not_all {p : UInt8 → Bool} {s : ByteArray} {k : Nat} (h : k < s.size) (hb : p s[k] = false) : s.data.toList.all p = false := by
  refine List.all_eq_false.2 ⟨s[k], ?_, by simp [hb]⟩
  exact Array.getElem_mem_toList h
theorem take_all {p : UInt8 → Bool} {s : ByteArray} {k : Nat} (h : s.size ≤ k) (ha : (s.data.toList.take k).all p = true) : s.data.toList.all p = true := by
  rwa [List.take_of_length_le (by simpa using h)] at ha

def nameByte (c : UInt8) : Bool := decide (65 ≤ c.toNat ∧ c.toNat ≤ 90) || decide (97 ≤ c.toNat ∧ c.toNat ≤ 122) || decide (48 ≤ c.toNat ∧ c.toNat ≤ 57) || c.toNat == 45 || c.toNat == 95 || c.toNat == 46 || c.toNat == 43
def nameOk (s : ByteArray) : Bool := s.data.toList.all nameByte && decide (1 ≤ s.size) && decide (s.size ≤ 255)
theorem nameOk_no {s : ByteArray} {k : Nat} (h : k < s.size) (hb : nameByte s[k] = false) : nameOk s = false := by
  unfold nameOk; rw [not_all h hb]; rfl
theorem nameOk_end {s : ByteArray} (ha : s.data.toList.all nameByte = true) (h : 1 ≤ s.size) : nameOk s = decide ((s.size : Int) ≤ 255) := by
  unfold nameOk; rw [ha]; simp only [h, decide_true, Bool.true_and]; exact decide_eq_decide.2 (by omega)
theorem nameOk_few {s : ByteArray} (h : ¬ 1 ≤ s.size) : nameOk s = false := by unfold nameOk; simp [h]

set_option maxHeartbeats 2000000 in
theorem spec_Name (s : ByteArray) (w : World) (hs : s.size ≤ 2147483647) :
    Calls Tryd.prog 15 #[.string s] w fun e w' => e = .returned (.bool (nameOk s)) ∧ w = w' := by
  go_enter Tryd.func15, Tryd.ntmps15
  go_wp2
  go_loop [7] (fun i => ∃ k : Nat, k ≤ s.size ∧ i = .int .i64 k ∧ Hid ((s.data.toList.take k).all nameByte = true)) (fun i => s.size - (intOf i).toNat)
  case atStart => exact ⟨0, Nat.zero_le _, rfl, rfl⟩
  case round =>
    obtain ⟨k, hk, rfl, hall⟩ := hrel
    by_cases hlt : k < s.size
    · have hc : s[k].toNat < 256 := s[k].toNat_lt
      rcases (show (0 ≤ s[k].toNat ∧ s[k].toNat ≤ 42) ∨ (43 ≤ s[k].toNat ∧ s[k].toNat ≤ 43) ∨ (44 ≤ s[k].toNat ∧ s[k].toNat ≤ 44) ∨ (45 ≤ s[k].toNat ∧ s[k].toNat ≤ 45) ∨ (46 ≤ s[k].toNat ∧ s[k].toNat ≤ 46) ∨ (47 ≤ s[k].toNat ∧ s[k].toNat ≤ 47) ∨ (48 ≤ s[k].toNat ∧ s[k].toNat ≤ 57) ∨ (58 ≤ s[k].toNat ∧ s[k].toNat ≤ 64) ∨ (65 ≤ s[k].toNat ∧ s[k].toNat ≤ 90) ∨ (91 ≤ s[k].toNat ∧ s[k].toNat ≤ 94) ∨ (95 ≤ s[k].toNat ∧ s[k].toNat ≤ 95) ∨ (96 ≤ s[k].toNat ∧ s[k].toNat ≤ 96) ∨ (97 ≤ s[k].toNat ∧ s[k].toNat ≤ 122) ∨ (123 ≤ s[k].toNat ∧ s[k].toNat ≤ 255) from by omega) with ⟨g, g'⟩ | ⟨g, g'⟩ | ⟨g, g'⟩ | ⟨g, g'⟩ | ⟨g, g'⟩ | ⟨g, g'⟩ | ⟨g, g'⟩ | ⟨g, g'⟩ | ⟨g, g'⟩ | ⟨g, g'⟩ | ⟨g, g'⟩ | ⟨g, g'⟩ | ⟨g, g'⟩ | ⟨g, g'⟩
      · have HB : Hid (nameByte s[k] = false) := (by unfold nameByte; simp; omega : nameByte s[k] = false)
        have e43 : ((s[k].toNat : Int) != 43) = true := ne_lit (by omega)
        have e45 : ((s[k].toNat : Int) != 45) = true := ne_lit (by omega)
        have e46 : ((s[k].toNat : Int) != 46) = true := ne_lit (by omega)
        have e95 : ((s[k].toNat : Int) != 95) = true := ne_lit (by omega)
        go_wp2
        go_ret
        exact ⟨ret_bool (nameOk_no hlt HB.out).symm, rfl⟩
      · have HB : Hid (nameByte s[k] = true) := (by unfold nameByte; simp; omega : nameByte s[k] = true)
        have e43 : ((s[k].toNat : Int) != 43) = false := eq_lit ⟨by omega, by omega⟩
        have e45 : ((s[k].toNat : Int) != 45) = true := ne_lit (by omega)
        have e46 : ((s[k].toNat : Int) != 46) = true := ne_lit (by omega)
        have e95 : ((s[k].toNat : Int) != 95) = true := ne_lit (by omega)
        go_wp2
        go_round
        case rel => exact ⟨k + 1, by omega, by go_num, all_snoc hlt hall.out HB.out⟩
        case measure => simp [intOf]; omega
      · have HB : Hid (nameByte s[k] = false) := (by unfold nameByte; simp; omega : nameByte s[k] = false)
        have e43 : ((s[k].toNat : Int) != 43) = true := ne_lit (by omega)
        have e45 : ((s[k].toNat : Int) != 45) = true := ne_lit (by omega)
        have e46 : ((s[k].toNat : Int) != 46) = true := ne_lit (by omega)
        have e95 : ((s[k].toNat : Int) != 95) = true := ne_lit (by omega)
        go_wp2
        go_ret
        exact ⟨ret_bool (nameOk_no hlt HB.out).symm, rfl⟩
      · have HB : Hid (nameByte s[k] = true) := (by unfold nameByte; simp; omega : nameByte s[k] = true)
        have e43 : ((s[k].toNat : Int) != 43) = true := ne_lit (by omega)
        have e45 : ((s[k].toNat : Int) != 45) = false := eq_lit ⟨by omega, by omega⟩
        have e46 : ((s[k].toNat : Int) != 46) = true := ne_lit (by omega)
        have e95 : ((s[k].toNat : Int) != 95) = true := ne_lit (by omega)
        go_wp2
        go_round
        case rel => exact ⟨k + 1, by omega, by go_num, all_snoc hlt hall.out HB.out⟩
        case measure => simp [intOf]; omega
      · have HB : Hid (nameByte s[k] = true) := (by unfold nameByte; simp; omega : nameByte s[k] = true)
        have e43 : ((s[k].toNat : Int) != 43) = true := ne_lit (by omega)
        have e45 : ((s[k].toNat : Int) != 45) = true := ne_lit (by omega)
        have e46 : ((s[k].toNat : Int) != 46) = false := eq_lit ⟨by omega, by omega⟩
        have e95 : ((s[k].toNat : Int) != 95) = true := ne_lit (by omega)
        go_wp2
        go_round
        case rel => exact ⟨k + 1, by omega, by go_num, all_snoc hlt hall.out HB.out⟩
        case measure => simp [intOf]; omega
      · have HB : Hid (nameByte s[k] = false) := (by unfold nameByte; simp; omega : nameByte s[k] = false)
        have e43 : ((s[k].toNat : Int) != 43) = true := ne_lit (by omega)
        have e45 : ((s[k].toNat : Int) != 45) = true := ne_lit (by omega)
        have e46 : ((s[k].toNat : Int) != 46) = true := ne_lit (by omega)
        have e95 : ((s[k].toNat : Int) != 95) = true := ne_lit (by omega)
        go_wp2
        go_ret
        exact ⟨ret_bool (nameOk_no hlt HB.out).symm, rfl⟩
      · have HB : Hid (nameByte s[k] = true) := (by unfold nameByte; simp; omega : nameByte s[k] = true)
        have e43 : ((s[k].toNat : Int) != 43) = true := ne_lit (by omega)
        have e45 : ((s[k].toNat : Int) != 45) = true := ne_lit (by omega)
        have e46 : ((s[k].toNat : Int) != 46) = true := ne_lit (by omega)
        have e95 : ((s[k].toNat : Int) != 95) = true := ne_lit (by omega)
        go_wp2
        go_round
        case rel => exact ⟨k + 1, by omega, by go_num, all_snoc hlt hall.out HB.out⟩
        case measure => simp [intOf]; omega
      · have HB : Hid (nameByte s[k] = false) := (by unfold nameByte; simp; omega : nameByte s[k] = false)
        have e43 : ((s[k].toNat : Int) != 43) = true := ne_lit (by omega)
        have e45 : ((s[k].toNat : Int) != 45) = true := ne_lit (by omega)
        have e46 : ((s[k].toNat : Int) != 46) = true := ne_lit (by omega)
        have e95 : ((s[k].toNat : Int) != 95) = true := ne_lit (by omega)
        go_wp2
        go_ret
        exact ⟨ret_bool (nameOk_no hlt HB.out).symm, rfl⟩
      · have HB : Hid (nameByte s[k] = true) := (by unfold nameByte; simp; omega : nameByte s[k] = true)
        have e43 : ((s[k].toNat : Int) != 43) = true := ne_lit (by omega)
        have e45 : ((s[k].toNat : Int) != 45) = true := ne_lit (by omega)
        have e46 : ((s[k].toNat : Int) != 46) = true := ne_lit (by omega)
        have e95 : ((s[k].toNat : Int) != 95) = true := ne_lit (by omega)
        go_wp2
        go_round
        case rel => exact ⟨k + 1, by omega, by go_num, all_snoc hlt hall.out HB.out⟩
        case measure => simp [intOf]; omega
      · have HB : Hid (nameByte s[k] = false) := (by unfold nameByte; simp; omega : nameByte s[k] = false)
        have e43 : ((s[k].toNat : Int) != 43) = true := ne_lit (by omega)
        have e45 : ((s[k].toNat : Int) != 45) = true := ne_lit (by omega)
        have e46 : ((s[k].toNat : Int) != 46) = true := ne_lit (by omega)
        have e95 : ((s[k].toNat : Int) != 95) = true := ne_lit (by omega)
        go_wp2
        go_ret
        exact ⟨ret_bool (nameOk_no hlt HB.out).symm, rfl⟩
      · have HB : Hid (nameByte s[k] = true) := (by unfold nameByte; simp; omega : nameByte s[k] = true)
        have e43 : ((s[k].toNat : Int) != 43) = true := ne_lit (by omega)
        have e45 : ((s[k].toNat : Int) != 45) = true := ne_lit (by omega)
        have e46 : ((s[k].toNat : Int) != 46) = true := ne_lit (by omega)
        have e95 : ((s[k].toNat : Int) != 95) = false := eq_lit ⟨by omega, by omega⟩
        go_wp2
        go_round
        case rel => exact ⟨k + 1, by omega, by go_num, all_snoc hlt hall.out HB.out⟩
        case measure => simp [intOf]; omega
      · have HB : Hid (nameByte s[k] = false) := (by unfold nameByte; simp; omega : nameByte s[k] = false)
        have e43 : ((s[k].toNat : Int) != 43) = true := ne_lit (by omega)
        have e45 : ((s[k].toNat : Int) != 45) = true := ne_lit (by omega)
        have e46 : ((s[k].toNat : Int) != 46) = true := ne_lit (by omega)
        have e95 : ((s[k].toNat : Int) != 95) = true := ne_lit (by omega)
        go_wp2
        go_ret
        exact ⟨ret_bool (nameOk_no hlt HB.out).symm, rfl⟩
      · have HB : Hid (nameByte s[k] = true) := (by unfold nameByte; simp; omega : nameByte s[k] = true)
        have e43 : ((s[k].toNat : Int) != 43) = true := ne_lit (by omega)
        have e45 : ((s[k].toNat : Int) != 45) = true := ne_lit (by omega)
        have e46 : ((s[k].toNat : Int) != 46) = true := ne_lit (by omega)
        have e95 : ((s[k].toNat : Int) != 95) = true := ne_lit (by omega)
        go_wp2
        go_round
        case rel => exact ⟨k + 1, by omega, by go_num, all_snoc hlt hall.out HB.out⟩
        case measure => simp [intOf]; omega
      · have HB : Hid (nameByte s[k] = false) := (by unfold nameByte; simp; omega : nameByte s[k] = false)
        have e43 : ((s[k].toNat : Int) != 43) = true := ne_lit (by omega)
        have e45 : ((s[k].toNat : Int) != 45) = true := ne_lit (by omega)
        have e46 : ((s[k].toNat : Int) != 46) = true := ne_lit (by omega)
        have e95 : ((s[k].toNat : Int) != 95) = true := ne_lit (by omega)
        go_wp2
        go_ret
        exact ⟨ret_bool (nameOk_no hlt HB.out).symm, rfl⟩
    · have HA : Hid (s.data.toList.all nameByte = true) := take_all (by omega) hall.out
      by_cases h1 : 1 ≤ s.size
      · go_wp2
        go_ret
        exact ⟨ret_bool (nameOk_end HA.out h1).symm, rfl⟩
      · go_wp2
        go_ret
        exact ⟨ret_bool (nameOk_few h1).symm, rfl⟩

end Go.Proofs.YtkpcepdalegmmaaDoor
