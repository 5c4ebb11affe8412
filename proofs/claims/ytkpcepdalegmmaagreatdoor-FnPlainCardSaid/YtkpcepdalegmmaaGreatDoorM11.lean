/- Parts of a proof, laid behind one another: Properties: titleASCII, toTitle. -/
import Derived.Test.YtkpcepdalegmmaaGreatDoorM10
/-! Properties: titleASCII, toTitle. -/
namespace Go.Proofs.YtkpcepdalegmmaaGreatDoor
open Go.RowKit

def isMid (c : UInt8) : Bool := decide (c.toNat = 39) || (decide (c.toNat = 46) || decide (c.toNat = 58))
def isLow (c : UInt8) : Bool := decide (97 ≤ c.toNat) && decide (c.toNat ≤ 122)
def isUp (c : UInt8) : Bool := decide (65 ≤ c.toNat) && decide (c.toNat ≤ 90)
def isWordy (c : UInt8) : Bool := (decide (48 ≤ c.toNat) && decide (c.toNat ≤ 57)) || (decide (c.toNat = 95) || decide (128 ≤ c.toNat))
def titleIn (a b : Bool) (c : UInt8) : Bool := if isLow c || isUp c then true else if isWordy c then a else if isMid c then (if b then false else a) else false
def titleOut (a : Bool) (c : UInt8) : UInt8 := if isLow c && !a then c - 32 else c
/-- Each word's first letter made great. -/
def titleRun : Bool → Bool → List UInt8 → List UInt8
  | _, _, [] => []
  | a, b, c :: r => titleOut a c :: titleRun (titleIn a b c) (isMid c) r
def titleL (l : List UInt8) : List UInt8 := titleRun false false l
theorem titleRun_length (l : List UInt8) : ∀ a b, (titleRun a b l).length = l.length := by
  induction l with
  | nil => intro a b; rfl
  | cons c r ih => intro a b; simp [titleRun, ih]
theorem title_sub {c : UInt8} (h : 97 ≤ c.toNat) : (c.toNat : Int) - 32 = ((c - 32).toNat : Int) := by
  have : (c - 32).toNat = c.toNat - 32 := by rw [UInt8.toNat_sub_of_le _ _ (by rw [UInt8.le_iff_toNat_le]; simp; omega)]; rfl
  rw [this]; omega
theorem title_step {l pre : List UInt8} {a b : Bool} {k : Nat} {x o : UInt8} {a' b' : Bool} {L : List UInt8} (h : pre ++ titleRun a b (l.drop k) = L) (hd : l.drop k = x :: l.drop (k + 1)) (h1 : titleOut a x = o) (h2 : titleIn a b x = a') (h3 : isMid x = b') :
    (pre ++ [o]) ++ titleRun a' b' (l.drop (k + 1)) = L := by
  rw [← h, hd, titleRun, h1, h2, h3, List.append_assoc]
  rfl

set_option maxRecDepth 100000 in
set_option maxHeartbeats 8000000 in
theorem titleASCII (s : ByteArray) (w : World) (hs : s.size ≤ 2147483648) :
    Calls Tryz.prog 97 #[.string s] w fun e w' => e = .returned (.string ⟨(titleL s.data.toList).toArray⟩) ∧ Below w.heap.size w w' := by
  obtain ⟨l, hl⟩ : ∃ l, l = s.data.toList := ⟨_, rfl⟩
  have hln : l.length = s.size := by rw [hl]; simp
  have HL := Lib.hid hln
  have HS := Lib.hid hl
  go_enter Tryz.func97, Tryz.ntmps97
  clear hln
  go_wp2_with (first
    | (with_reducible refine wpl_ofStrW rfl (.tmp 9) rfl s rfl ?_
       intro c w1 hW hB hc
       rw [← HS.out] at hW))
  clear hl
  have hgl := hW.lt
  have HW := Lib.hid hW
  clear hW
  go_loopw [4, 5, 13] (fun iw wm i wr => ∃ (k : Nat) (pre : List UInt8) (a b : Bool), k ≤ s.size ∧ iw = .bool a ∧ wm = .bool b ∧ i = .int .i64 k ∧ Hid (pre.length = k) ∧ Hid (pre ++ titleRun a b (l.drop k) = titleL l) ∧ Hid (WB wr w.heap.size (pre ++ l.drop k)) ∧ Below w.heap.size w wr) (fun _ _ i _ => s.size - (intOf i).toNat)
  case atStart => exact ⟨0, [], false, false, Nat.zero_le _, rfl, rfl, rfl, Lib.hid rfl, Lib.hid rfl, HW, hB⟩
  case round =>
    obtain ⟨k, pre, a, b, hk, rfl, rfl, rfl, hp, hsm, hwb, hbl⟩ := hrel
    by_cases hlt : k < s.size
    · have hkl : k < l.length := by rw [HL.out]; exact hlt
      have c0 := hwb.out.at_ (j := k) (by rw [cut_at hp.out]; omega)
      have f0 := hwb.out.free (j := k) (by rw [cut_at hp.out]; omega)
      rw [cut_get hp.out] at c0
      have hnx := Lib.hid (cut_next (pre := pre) hkl)
      have hst := Lib.hid (cut_set hp.out hkl)
      have hdr := Lib.hid (drop_getD hkl)
      generalize l.getD k 0 = x at c0 hnx hdr
      have hx : x.toNat < 256 := x.toNat_lt
      clear hkl
      rcases (show (0 ≤ x.toNat ∧ x.toNat ≤ 38) ∨ (39 ≤ x.toNat ∧ x.toNat ≤ 39) ∨ (40 ≤ x.toNat ∧ x.toNat ≤ 45) ∨ (46 ≤ x.toNat ∧ x.toNat ≤ 46) ∨ (47 ≤ x.toNat ∧ x.toNat ≤ 47) ∨ (48 ≤ x.toNat ∧ x.toNat ≤ 57) ∨ (58 ≤ x.toNat ∧ x.toNat ≤ 58) ∨ (59 ≤ x.toNat ∧ x.toNat ≤ 64) ∨ (65 ≤ x.toNat ∧ x.toNat ≤ 90) ∨ (91 ≤ x.toNat ∧ x.toNat ≤ 94) ∨ (95 ≤ x.toNat ∧ x.toNat ≤ 95) ∨ (96 ≤ x.toNat ∧ x.toNat ≤ 96) ∨ (97 ≤ x.toNat ∧ x.toNat ≤ 122) ∨ (123 ≤ x.toNat ∧ x.toNat ≤ 127) ∨ (128 ≤ x.toNat ∧ x.toNat ≤ 255) by omega) with ⟨h1, h2⟩ | ⟨h1, h2⟩ | ⟨h1, h2⟩ | ⟨h1, h2⟩ | ⟨h1, h2⟩ | ⟨h1, h2⟩ | ⟨h1, h2⟩ | ⟨h1, h2⟩ | ⟨h1, h2⟩ | ⟨h1, h2⟩ | ⟨h1, h2⟩ | ⟨h1, h2⟩ | ⟨h1, h2⟩ | ⟨h1, h2⟩ | ⟨h1, h2⟩
      · have q1 : isLow x = false := by unfold isLow; simp; omega
        have q2 : isUp x = false := by unfold isUp; simp; omega
        have q3 : isWordy x = false := by unfold isWordy; simp; omega
        have q4 : isMid x = false := by unfold isMid; simp; omega
        have HQ : Hid (titleOut a x = x ∧ titleIn a b x = false ∧ isMid x = false) := Lib.hid ⟨by simp [titleOut, q1], by simp [titleIn, q1, q2, q3, q4], q4⟩
        clear q1 q2 q3 q4
        have e39 : ((x.toNat : Int) == 39) = false := beq_eq_false_iff_ne.2 (by omega)
        have e46 : ((x.toNat : Int) == 46) = false := beq_eq_false_iff_ne.2 (by omega)
        have e58 : ((x.toNat : Int) == 58) = false := beq_eq_false_iff_ne.2 (by omega)
        have e95 : ((x.toNat : Int) == 95) = false := beq_eq_false_iff_ne.2 (by omega)
        go_wp2_with fail
        go_roundw
        case rel => exact ⟨k + 1, pre ++ [x], false, false, by omega, rfl, rfl, by go_num, Lib.hid (by have := hp.out; simp; omega), Lib.hid (title_step hsm.out hdr.out HQ.out.1 HQ.out.2.1 HQ.out.2.2), Lib.hid (by rw [← hnx.out]; exact hwb.out), hbl⟩
        case measure => simp [intOf]; omega
      · cases b
        · have q1 : isLow x = false := by unfold isLow; simp; omega
          have q2 : isUp x = false := by unfold isUp; simp; omega
          have q3 : isWordy x = false := by unfold isWordy; simp; omega
          have q4 : isMid x = true := by unfold isMid; simp; omega
          have HQ : Hid (titleOut a x = x ∧ titleIn a false x = a ∧ isMid x = true) := Lib.hid ⟨by simp [titleOut, q1], by simp [titleIn, q1, q2, q3, q4], q4⟩
          clear q1 q2 q3 q4
          have e39 : ((x.toNat : Int) == 39) = true := beq_iff_eq.2 (by omega)
          have e46 : ((x.toNat : Int) == 46) = false := beq_eq_false_iff_ne.2 (by omega)
          have e58 : ((x.toNat : Int) == 58) = false := beq_eq_false_iff_ne.2 (by omega)
          have e95 : ((x.toNat : Int) == 95) = false := beq_eq_false_iff_ne.2 (by omega)
          go_wp2_with fail
          go_roundw
          case rel => exact ⟨k + 1, pre ++ [x], a, true, by omega, rfl, rfl, by go_num, Lib.hid (by have := hp.out; simp; omega), Lib.hid (title_step hsm.out hdr.out HQ.out.1 HQ.out.2.1 HQ.out.2.2), Lib.hid (by rw [← hnx.out]; exact hwb.out), hbl⟩
          case measure => simp [intOf]; omega
        · have q1 : isLow x = false := by unfold isLow; simp; omega
          have q2 : isUp x = false := by unfold isUp; simp; omega
          have q3 : isWordy x = false := by unfold isWordy; simp; omega
          have q4 : isMid x = true := by unfold isMid; simp; omega
          have HQ : Hid (titleOut a x = x ∧ titleIn a true x = false ∧ isMid x = true) := Lib.hid ⟨by simp [titleOut, q1], by simp [titleIn, q1, q2, q3, q4], q4⟩
          clear q1 q2 q3 q4
          have e39 : ((x.toNat : Int) == 39) = true := beq_iff_eq.2 (by omega)
          have e46 : ((x.toNat : Int) == 46) = false := beq_eq_false_iff_ne.2 (by omega)
          have e58 : ((x.toNat : Int) == 58) = false := beq_eq_false_iff_ne.2 (by omega)
          have e95 : ((x.toNat : Int) == 95) = false := beq_eq_false_iff_ne.2 (by omega)
          go_wp2_with fail
          go_roundw
          case rel => exact ⟨k + 1, pre ++ [x], false, true, by omega, rfl, rfl, by go_num, Lib.hid (by have := hp.out; simp; omega), Lib.hid (title_step hsm.out hdr.out HQ.out.1 HQ.out.2.1 HQ.out.2.2), Lib.hid (by rw [← hnx.out]; exact hwb.out), hbl⟩
          case measure => simp [intOf]; omega
      · have q1 : isLow x = false := by unfold isLow; simp; omega
        have q2 : isUp x = false := by unfold isUp; simp; omega
        have q3 : isWordy x = false := by unfold isWordy; simp; omega
        have q4 : isMid x = false := by unfold isMid; simp; omega
        have HQ : Hid (titleOut a x = x ∧ titleIn a b x = false ∧ isMid x = false) := Lib.hid ⟨by simp [titleOut, q1], by simp [titleIn, q1, q2, q3, q4], q4⟩
        clear q1 q2 q3 q4
        have e39 : ((x.toNat : Int) == 39) = false := beq_eq_false_iff_ne.2 (by omega)
        have e46 : ((x.toNat : Int) == 46) = false := beq_eq_false_iff_ne.2 (by omega)
        have e58 : ((x.toNat : Int) == 58) = false := beq_eq_false_iff_ne.2 (by omega)
        have e95 : ((x.toNat : Int) == 95) = false := beq_eq_false_iff_ne.2 (by omega)
        go_wp2_with fail
        go_roundw
        case rel => exact ⟨k + 1, pre ++ [x], false, false, by omega, rfl, rfl, by go_num, Lib.hid (by have := hp.out; simp; omega), Lib.hid (title_step hsm.out hdr.out HQ.out.1 HQ.out.2.1 HQ.out.2.2), Lib.hid (by rw [← hnx.out]; exact hwb.out), hbl⟩
        case measure => simp [intOf]; omega
      · cases b
        · have q1 : isLow x = false := by unfold isLow; simp; omega
          have q2 : isUp x = false := by unfold isUp; simp; omega
          have q3 : isWordy x = false := by unfold isWordy; simp; omega
          have q4 : isMid x = true := by unfold isMid; simp; omega
          have HQ : Hid (titleOut a x = x ∧ titleIn a false x = a ∧ isMid x = true) := Lib.hid ⟨by simp [titleOut, q1], by simp [titleIn, q1, q2, q3, q4], q4⟩
          clear q1 q2 q3 q4
          have e39 : ((x.toNat : Int) == 39) = false := beq_eq_false_iff_ne.2 (by omega)
          have e46 : ((x.toNat : Int) == 46) = true := beq_iff_eq.2 (by omega)
          have e58 : ((x.toNat : Int) == 58) = false := beq_eq_false_iff_ne.2 (by omega)
          have e95 : ((x.toNat : Int) == 95) = false := beq_eq_false_iff_ne.2 (by omega)
          go_wp2_with fail
          go_roundw
          case rel => exact ⟨k + 1, pre ++ [x], a, true, by omega, rfl, rfl, by go_num, Lib.hid (by have := hp.out; simp; omega), Lib.hid (title_step hsm.out hdr.out HQ.out.1 HQ.out.2.1 HQ.out.2.2), Lib.hid (by rw [← hnx.out]; exact hwb.out), hbl⟩
          case measure => simp [intOf]; omega
        · have q1 : isLow x = false := by unfold isLow; simp; omega
          have q2 : isUp x = false := by unfold isUp; simp; omega
          have q3 : isWordy x = false := by unfold isWordy; simp; omega
          have q4 : isMid x = true := by unfold isMid; simp; omega
          have HQ : Hid (titleOut a x = x ∧ titleIn a true x = false ∧ isMid x = true) := Lib.hid ⟨by simp [titleOut, q1], by simp [titleIn, q1, q2, q3, q4], q4⟩
          clear q1 q2 q3 q4
          have e39 : ((x.toNat : Int) == 39) = false := beq_eq_false_iff_ne.2 (by omega)
          have e46 : ((x.toNat : Int) == 46) = true := beq_iff_eq.2 (by omega)
          have e58 : ((x.toNat : Int) == 58) = false := beq_eq_false_iff_ne.2 (by omega)
          have e95 : ((x.toNat : Int) == 95) = false := beq_eq_false_iff_ne.2 (by omega)
          go_wp2_with fail
          go_roundw
          case rel => exact ⟨k + 1, pre ++ [x], false, true, by omega, rfl, rfl, by go_num, Lib.hid (by have := hp.out; simp; omega), Lib.hid (title_step hsm.out hdr.out HQ.out.1 HQ.out.2.1 HQ.out.2.2), Lib.hid (by rw [← hnx.out]; exact hwb.out), hbl⟩
          case measure => simp [intOf]; omega
      · have q1 : isLow x = false := by unfold isLow; simp; omega
        have q2 : isUp x = false := by unfold isUp; simp; omega
        have q3 : isWordy x = false := by unfold isWordy; simp; omega
        have q4 : isMid x = false := by unfold isMid; simp; omega
        have HQ : Hid (titleOut a x = x ∧ titleIn a b x = false ∧ isMid x = false) := Lib.hid ⟨by simp [titleOut, q1], by simp [titleIn, q1, q2, q3, q4], q4⟩
        clear q1 q2 q3 q4
        have e39 : ((x.toNat : Int) == 39) = false := beq_eq_false_iff_ne.2 (by omega)
        have e46 : ((x.toNat : Int) == 46) = false := beq_eq_false_iff_ne.2 (by omega)
        have e58 : ((x.toNat : Int) == 58) = false := beq_eq_false_iff_ne.2 (by omega)
        have e95 : ((x.toNat : Int) == 95) = false := beq_eq_false_iff_ne.2 (by omega)
        go_wp2_with fail
        go_roundw
        case rel => exact ⟨k + 1, pre ++ [x], false, false, by omega, rfl, rfl, by go_num, Lib.hid (by have := hp.out; simp; omega), Lib.hid (title_step hsm.out hdr.out HQ.out.1 HQ.out.2.1 HQ.out.2.2), Lib.hid (by rw [← hnx.out]; exact hwb.out), hbl⟩
        case measure => simp [intOf]; omega
      · have q1 : isLow x = false := by unfold isLow; simp; omega
        have q2 : isUp x = false := by unfold isUp; simp; omega
        have q3 : isWordy x = true := by unfold isWordy; simp; omega
        have q4 : isMid x = false := by unfold isMid; simp; omega
        have HQ : Hid (titleOut a x = x ∧ titleIn a b x = a ∧ isMid x = false) := Lib.hid ⟨by simp [titleOut, q1], by simp [titleIn, q1, q2, q3], q4⟩
        clear q1 q2 q3 q4
        have e39 : ((x.toNat : Int) == 39) = false := beq_eq_false_iff_ne.2 (by omega)
        have e46 : ((x.toNat : Int) == 46) = false := beq_eq_false_iff_ne.2 (by omega)
        have e58 : ((x.toNat : Int) == 58) = false := beq_eq_false_iff_ne.2 (by omega)
        have e95 : ((x.toNat : Int) == 95) = false := beq_eq_false_iff_ne.2 (by omega)
        go_wp2_with fail
        go_roundw
        case rel => exact ⟨k + 1, pre ++ [x], a, false, by omega, rfl, rfl, by go_num, Lib.hid (by have := hp.out; simp; omega), Lib.hid (title_step hsm.out hdr.out HQ.out.1 HQ.out.2.1 HQ.out.2.2), Lib.hid (by rw [← hnx.out]; exact hwb.out), hbl⟩
        case measure => simp [intOf]; omega
      · cases b
        · have q1 : isLow x = false := by unfold isLow; simp; omega
          have q2 : isUp x = false := by unfold isUp; simp; omega
          have q3 : isWordy x = false := by unfold isWordy; simp; omega
          have q4 : isMid x = true := by unfold isMid; simp; omega
          have HQ : Hid (titleOut a x = x ∧ titleIn a false x = a ∧ isMid x = true) := Lib.hid ⟨by simp [titleOut, q1], by simp [titleIn, q1, q2, q3, q4], q4⟩
          clear q1 q2 q3 q4
          have e39 : ((x.toNat : Int) == 39) = false := beq_eq_false_iff_ne.2 (by omega)
          have e46 : ((x.toNat : Int) == 46) = false := beq_eq_false_iff_ne.2 (by omega)
          have e58 : ((x.toNat : Int) == 58) = true := beq_iff_eq.2 (by omega)
          have e95 : ((x.toNat : Int) == 95) = false := beq_eq_false_iff_ne.2 (by omega)
          go_wp2_with fail
          go_roundw
          case rel => exact ⟨k + 1, pre ++ [x], a, true, by omega, rfl, rfl, by go_num, Lib.hid (by have := hp.out; simp; omega), Lib.hid (title_step hsm.out hdr.out HQ.out.1 HQ.out.2.1 HQ.out.2.2), Lib.hid (by rw [← hnx.out]; exact hwb.out), hbl⟩
          case measure => simp [intOf]; omega
        · have q1 : isLow x = false := by unfold isLow; simp; omega
          have q2 : isUp x = false := by unfold isUp; simp; omega
          have q3 : isWordy x = false := by unfold isWordy; simp; omega
          have q4 : isMid x = true := by unfold isMid; simp; omega
          have HQ : Hid (titleOut a x = x ∧ titleIn a true x = false ∧ isMid x = true) := Lib.hid ⟨by simp [titleOut, q1], by simp [titleIn, q1, q2, q3, q4], q4⟩
          clear q1 q2 q3 q4
          have e39 : ((x.toNat : Int) == 39) = false := beq_eq_false_iff_ne.2 (by omega)
          have e46 : ((x.toNat : Int) == 46) = false := beq_eq_false_iff_ne.2 (by omega)
          have e58 : ((x.toNat : Int) == 58) = true := beq_iff_eq.2 (by omega)
          have e95 : ((x.toNat : Int) == 95) = false := beq_eq_false_iff_ne.2 (by omega)
          go_wp2_with fail
          go_roundw
          case rel => exact ⟨k + 1, pre ++ [x], false, true, by omega, rfl, rfl, by go_num, Lib.hid (by have := hp.out; simp; omega), Lib.hid (title_step hsm.out hdr.out HQ.out.1 HQ.out.2.1 HQ.out.2.2), Lib.hid (by rw [← hnx.out]; exact hwb.out), hbl⟩
          case measure => simp [intOf]; omega
      · have q1 : isLow x = false := by unfold isLow; simp; omega
        have q2 : isUp x = false := by unfold isUp; simp; omega
        have q3 : isWordy x = false := by unfold isWordy; simp; omega
        have q4 : isMid x = false := by unfold isMid; simp; omega
        have HQ : Hid (titleOut a x = x ∧ titleIn a b x = false ∧ isMid x = false) := Lib.hid ⟨by simp [titleOut, q1], by simp [titleIn, q1, q2, q3, q4], q4⟩
        clear q1 q2 q3 q4
        have e39 : ((x.toNat : Int) == 39) = false := beq_eq_false_iff_ne.2 (by omega)
        have e46 : ((x.toNat : Int) == 46) = false := beq_eq_false_iff_ne.2 (by omega)
        have e58 : ((x.toNat : Int) == 58) = false := beq_eq_false_iff_ne.2 (by omega)
        have e95 : ((x.toNat : Int) == 95) = false := beq_eq_false_iff_ne.2 (by omega)
        go_wp2_with fail
        go_roundw
        case rel => exact ⟨k + 1, pre ++ [x], false, false, by omega, rfl, rfl, by go_num, Lib.hid (by have := hp.out; simp; omega), Lib.hid (title_step hsm.out hdr.out HQ.out.1 HQ.out.2.1 HQ.out.2.2), Lib.hid (by rw [← hnx.out]; exact hwb.out), hbl⟩
        case measure => simp [intOf]; omega
      · have q1 : isLow x = false := by unfold isLow; simp; omega
        have q2 : isUp x = true := by unfold isUp; simp; omega
        have q3 : isWordy x = false := by unfold isWordy; simp; omega
        have q4 : isMid x = false := by unfold isMid; simp; omega
        have HQ : Hid (titleOut a x = x ∧ titleIn a b x = true ∧ isMid x = false) := Lib.hid ⟨by simp [titleOut, q1], by simp [titleIn, q1, q2], q4⟩
        clear q1 q2 q3 q4
        have e39 : ((x.toNat : Int) == 39) = false := beq_eq_false_iff_ne.2 (by omega)
        have e46 : ((x.toNat : Int) == 46) = false := beq_eq_false_iff_ne.2 (by omega)
        have e58 : ((x.toNat : Int) == 58) = false := beq_eq_false_iff_ne.2 (by omega)
        have e95 : ((x.toNat : Int) == 95) = false := beq_eq_false_iff_ne.2 (by omega)
        go_wp2_with fail
        go_roundw
        case rel => exact ⟨k + 1, pre ++ [x], true, false, by omega, rfl, rfl, by go_num, Lib.hid (by have := hp.out; simp; omega), Lib.hid (title_step hsm.out hdr.out HQ.out.1 HQ.out.2.1 HQ.out.2.2), Lib.hid (by rw [← hnx.out]; exact hwb.out), hbl⟩
        case measure => simp [intOf]; omega
      · have q1 : isLow x = false := by unfold isLow; simp; omega
        have q2 : isUp x = false := by unfold isUp; simp; omega
        have q3 : isWordy x = false := by unfold isWordy; simp; omega
        have q4 : isMid x = false := by unfold isMid; simp; omega
        have HQ : Hid (titleOut a x = x ∧ titleIn a b x = false ∧ isMid x = false) := Lib.hid ⟨by simp [titleOut, q1], by simp [titleIn, q1, q2, q3, q4], q4⟩
        clear q1 q2 q3 q4
        have e39 : ((x.toNat : Int) == 39) = false := beq_eq_false_iff_ne.2 (by omega)
        have e46 : ((x.toNat : Int) == 46) = false := beq_eq_false_iff_ne.2 (by omega)
        have e58 : ((x.toNat : Int) == 58) = false := beq_eq_false_iff_ne.2 (by omega)
        have e95 : ((x.toNat : Int) == 95) = false := beq_eq_false_iff_ne.2 (by omega)
        go_wp2_with fail
        go_roundw
        case rel => exact ⟨k + 1, pre ++ [x], false, false, by omega, rfl, rfl, by go_num, Lib.hid (by have := hp.out; simp; omega), Lib.hid (title_step hsm.out hdr.out HQ.out.1 HQ.out.2.1 HQ.out.2.2), Lib.hid (by rw [← hnx.out]; exact hwb.out), hbl⟩
        case measure => simp [intOf]; omega
      · have q1 : isLow x = false := by unfold isLow; simp; omega
        have q2 : isUp x = false := by unfold isUp; simp; omega
        have q3 : isWordy x = true := by unfold isWordy; simp; omega
        have q4 : isMid x = false := by unfold isMid; simp; omega
        have HQ : Hid (titleOut a x = x ∧ titleIn a b x = a ∧ isMid x = false) := Lib.hid ⟨by simp [titleOut, q1], by simp [titleIn, q1, q2, q3], q4⟩
        clear q1 q2 q3 q4
        have e39 : ((x.toNat : Int) == 39) = false := beq_eq_false_iff_ne.2 (by omega)
        have e46 : ((x.toNat : Int) == 46) = false := beq_eq_false_iff_ne.2 (by omega)
        have e58 : ((x.toNat : Int) == 58) = false := beq_eq_false_iff_ne.2 (by omega)
        have e95 : ((x.toNat : Int) == 95) = true := beq_iff_eq.2 (by omega)
        go_wp2_with fail
        go_roundw
        case rel => exact ⟨k + 1, pre ++ [x], a, false, by omega, rfl, rfl, by go_num, Lib.hid (by have := hp.out; simp; omega), Lib.hid (title_step hsm.out hdr.out HQ.out.1 HQ.out.2.1 HQ.out.2.2), Lib.hid (by rw [← hnx.out]; exact hwb.out), hbl⟩
        case measure => simp [intOf]; omega
      · have q1 : isLow x = false := by unfold isLow; simp; omega
        have q2 : isUp x = false := by unfold isUp; simp; omega
        have q3 : isWordy x = false := by unfold isWordy; simp; omega
        have q4 : isMid x = false := by unfold isMid; simp; omega
        have HQ : Hid (titleOut a x = x ∧ titleIn a b x = false ∧ isMid x = false) := Lib.hid ⟨by simp [titleOut, q1], by simp [titleIn, q1, q2, q3, q4], q4⟩
        clear q1 q2 q3 q4
        have e39 : ((x.toNat : Int) == 39) = false := beq_eq_false_iff_ne.2 (by omega)
        have e46 : ((x.toNat : Int) == 46) = false := beq_eq_false_iff_ne.2 (by omega)
        have e58 : ((x.toNat : Int) == 58) = false := beq_eq_false_iff_ne.2 (by omega)
        have e95 : ((x.toNat : Int) == 95) = false := beq_eq_false_iff_ne.2 (by omega)
        go_wp2_with fail
        go_roundw
        case rel => exact ⟨k + 1, pre ++ [x], false, false, by omega, rfl, rfl, by go_num, Lib.hid (by have := hp.out; simp; omega), Lib.hid (title_step hsm.out hdr.out HQ.out.1 HQ.out.2.1 HQ.out.2.2), Lib.hid (by rw [← hnx.out]; exact hwb.out), hbl⟩
        case measure => simp [intOf]; omega
      · cases a
        · have q1 : isLow x = true := by unfold isLow; simp; omega
          have q2 : isUp x = false := by unfold isUp; simp; omega
          have q3 : isWordy x = false := by unfold isWordy; simp; omega
          have q4 : isMid x = false := by unfold isMid; simp; omega
          have HQ : Hid (titleOut false x = x - 32 ∧ titleIn false b x = true ∧ isMid x = false) := Lib.hid ⟨by simp [titleOut, q1], by simp [titleIn, q1], q4⟩
          clear q1 q2 q3 q4
          have e39 : ((x.toNat : Int) == 39) = false := beq_eq_false_iff_ne.2 (by omega)
          have e46 : ((x.toNat : Int) == 46) = false := beq_eq_false_iff_ne.2 (by omega)
          have e58 : ((x.toNat : Int) == 58) = false := beq_eq_false_iff_ne.2 (by omega)
          have e95 : ((x.toNat : Int) == 95) = false := beq_eq_false_iff_ne.2 (by omega)
          go_wp2_with fail
          go_roundw
          case rel =>
            have hw2 := hwb.out.set (i := k) (x - 32) _ (title_sub h1)
            rw [hst.out] at hw2
            exact ⟨k + 1, pre ++ [x - 32], true, false, by omega, rfl, rfl, by go_num, Lib.hid (by have := hp.out; simp; omega), Lib.hid (title_step hsm.out hdr.out HQ.out.1 HQ.out.2.1 HQ.out.2.2), Lib.hid hw2, below_setN hbl (Nat.le_refl _) _⟩
          case measure => simp [intOf]; omega
        · have q1 : isLow x = true := by unfold isLow; simp; omega
          have q2 : isUp x = false := by unfold isUp; simp; omega
          have q3 : isWordy x = false := by unfold isWordy; simp; omega
          have q4 : isMid x = false := by unfold isMid; simp; omega
          have HQ : Hid (titleOut true x = x ∧ titleIn true b x = true ∧ isMid x = false) := Lib.hid ⟨by simp [titleOut, q1], by simp [titleIn, q1], q4⟩
          clear q1 q2 q3 q4
          have e39 : ((x.toNat : Int) == 39) = false := beq_eq_false_iff_ne.2 (by omega)
          have e46 : ((x.toNat : Int) == 46) = false := beq_eq_false_iff_ne.2 (by omega)
          have e58 : ((x.toNat : Int) == 58) = false := beq_eq_false_iff_ne.2 (by omega)
          have e95 : ((x.toNat : Int) == 95) = false := beq_eq_false_iff_ne.2 (by omega)
          go_wp2_with fail
          go_roundw
          case rel => exact ⟨k + 1, pre ++ [x], true, false, by omega, rfl, rfl, by go_num, Lib.hid (by have := hp.out; simp; omega), Lib.hid (title_step hsm.out hdr.out HQ.out.1 HQ.out.2.1 HQ.out.2.2), Lib.hid (by rw [← hnx.out]; exact hwb.out), hbl⟩
          case measure => simp [intOf]; omega
      · have q1 : isLow x = false := by unfold isLow; simp; omega
        have q2 : isUp x = false := by unfold isUp; simp; omega
        have q3 : isWordy x = false := by unfold isWordy; simp; omega
        have q4 : isMid x = false := by unfold isMid; simp; omega
        have HQ : Hid (titleOut a x = x ∧ titleIn a b x = false ∧ isMid x = false) := Lib.hid ⟨by simp [titleOut, q1], by simp [titleIn, q1, q2, q3, q4], q4⟩
        clear q1 q2 q3 q4
        have e39 : ((x.toNat : Int) == 39) = false := beq_eq_false_iff_ne.2 (by omega)
        have e46 : ((x.toNat : Int) == 46) = false := beq_eq_false_iff_ne.2 (by omega)
        have e58 : ((x.toNat : Int) == 58) = false := beq_eq_false_iff_ne.2 (by omega)
        have e95 : ((x.toNat : Int) == 95) = false := beq_eq_false_iff_ne.2 (by omega)
        go_wp2_with fail
        go_roundw
        case rel => exact ⟨k + 1, pre ++ [x], false, false, by omega, rfl, rfl, by go_num, Lib.hid (by have := hp.out; simp; omega), Lib.hid (title_step hsm.out hdr.out HQ.out.1 HQ.out.2.1 HQ.out.2.2), Lib.hid (by rw [← hnx.out]; exact hwb.out), hbl⟩
        case measure => simp [intOf]; omega
      · have q1 : isLow x = false := by unfold isLow; simp; omega
        have q2 : isUp x = false := by unfold isUp; simp; omega
        have q3 : isWordy x = true := by unfold isWordy; simp; omega
        have q4 : isMid x = false := by unfold isMid; simp; omega
        have HQ : Hid (titleOut a x = x ∧ titleIn a b x = a ∧ isMid x = false) := Lib.hid ⟨by simp [titleOut, q1], by simp [titleIn, q1, q2, q3], q4⟩
        clear q1 q2 q3 q4
        have e39 : ((x.toNat : Int) == 39) = false := beq_eq_false_iff_ne.2 (by omega)
        have e46 : ((x.toNat : Int) == 46) = false := beq_eq_false_iff_ne.2 (by omega)
        have e58 : ((x.toNat : Int) == 58) = false := beq_eq_false_iff_ne.2 (by omega)
        have e95 : ((x.toNat : Int) == 95) = false := beq_eq_false_iff_ne.2 (by omega)
        go_wp2_with fail
        go_roundw
        case rel => exact ⟨k + 1, pre ++ [x], a, false, by omega, rfl, rfl, by go_num, Lib.hid (by have := hp.out; simp; omega), Lib.hid (title_step hsm.out hdr.out HQ.out.1 HQ.out.2.1 HQ.out.2.2), Lib.hid (by rw [← hnx.out]; exact hwb.out), hbl⟩
        case measure => simp [intOf]; omega
    · have hkn : k = s.size := by omega
      have hpre : pre = titleL l := by
        have := hsm.out
        rw [List.drop_eq_nil_of_le (by rw [HL.out]; omega)] at this
        simpa [titleRun] using this
      have hw2 := hwb.out
      rw [List.drop_eq_nil_of_le (by rw [HL.out]; omega), List.append_nil, hpre] at hw2
      have hr := hw2.rb (n := s.size) (by rw [← HL.out]; simp [titleL, titleRun_length])
      have hstr := run_strB (c := c) hr
      rw [HS.out] at hstr
      subst hkn
      clear hpre hw2 hr
      go_wp2_with fail
      go_ret
      exact ⟨rfl, hbl⟩

theorem toTitle (s : ByteArray) (w : World) (hs : s.size ≤ 2147483648) :
    Calls Tryz.prog 73 #[.string s] w fun e w' => e = .returned (.string ⟨(titleL s.data.toList).toArray⟩) ∧ Below w.heap.size w w' := by
  go_enter Tryz.func73, Tryz.ntmps73
  go_wp2_with fail
  refine (titleASCII s w hs).mono ?_
  rintro e w' ⟨rfl, hb⟩
  go_wp2_with fail
  go_ret
  exact ⟨rfl, hb⟩
end Go.Proofs.YtkpcepdalegmmaaGreatDoor
