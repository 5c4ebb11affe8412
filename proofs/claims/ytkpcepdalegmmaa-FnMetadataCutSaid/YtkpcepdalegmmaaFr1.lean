/- Frames: laws.zzFits2, laws.zzFits1, laws.frames, spec.Proper. -/
import Derived.Test.YtkpcepdalegmmaaApp
namespace Go.Proofs.Ytkpcepdalegmmaa
open Go.RowKit

def Fr.val (f : Fr) : Value := .agg #[.bool f.cmd, .bool f.more, .slice f.A f.n f.c]
def small (f : Fr) : Bool := decide (f.n ≤ 2147483647)

theorem all_at_no {α : Type} {p : α → Bool} {l : List α} {k : Nat} {x : α} (h : l[k]? = some x) (hp : p x = false) : l.all p = false := by
  rw [List.all_eq_false]
  exact ⟨x, List.mem_of_getElem? h, by simp [hp]⟩
theorem all_at_yes {α : Type} {p : α → Bool} {l : List α} {k : Nat} {x : α} (h : l[k]? = some x) (hp : p x = true) (ha : (l.take k).all p = true) : (l.take (k + 1)).all p = true := by
  have hk : k < l.length := (List.getElem?_eq_some_iff.1 h).1
  rw [List.take_succ_eq_append_getElem hk, List.all_append, ha, (List.getElem?_eq_some_iff.1 h).2]
  simp [hp]

theorem zzFits2 (f : Fr) (w : World) (hn : f.n ≤ maxLen) : Calls Try.prog 39 #[f.val] w fun e w' => e = .returned (.bool (small f)) ∧ Below w.heap.size w w' := by
  unfold maxLen at hn
  obtain ⟨cmd, more, A, n, c, body⟩ := f
  unfold Fr.val small
  simp only at hn ⊢
  by_cases h : n ≤ 2147483647
  · rw [decide_eq_true h]
    go_enter Try.func39, Try.ntmps39
    go_wp2_with fail
    go_ret
    exact ⟨rfl, (Below.refl _ _).alloc (Nat.le_refl _) _⟩
  · rw [decide_eq_false h]
    go_enter Try.func39, Try.ntmps39
    go_wp2_with fail
    go_ret
    exact ⟨rfl, (Below.refl _ _).alloc (Nat.le_refl _) _⟩

set_option maxRecDepth 100000 in
theorem zzFits1 (A : Option Addr) (n c : Nat) (fs : List Fr) (w : World) (hr : FrS w w.heap.size A n fs) (hn : n ≤ maxLen) (hb : ∀ f ∈ fs, f.n ≤ maxLen) :
    Calls Try.prog 18 #[.slice A n c] w fun e w' => e = .returned (.bool (decide (n ≤ 2147483647) && fs.all small)) ∧ Below w.heap.size w w' := by
  unfold maxLen at hn
  by_cases h : n ≤ 2147483647
  · go_enter Try.func18, Try.ntmps18
    go_wp2_with fail
    go_loopw [10] (fun i wr => ∃ k : Nat, k ≤ n ∧ i = .int .i64 k ∧ Hid ((fs.take k).all small = true) ∧ Below w.heap.size w wr) (fun i _ => n - (intOf i).toNat)
    case atStart => exact ⟨0, Nat.zero_le _, rfl, Lib.hid rfl, Below.refl _ _⟩
    case round =>
      obtain ⟨k, hk, rfl, hall, hbl⟩ := hrel
      by_cases hkn : k < n
      · obtain ⟨ad, f, rfl, hadb, hf, h1, h2, h3⟩ := (hr.after hbl).at_ hkn
        go_wp2_with fail
        refine (zzFits2 f _ (hb f (List.mem_of_getElem? hf))).mono ?_
        rintro e w2 ⟨rfl, hb2⟩
        have hbl2 : Below w.heap.size w w2 := below_seq (hbl.alloc hbl.size _) hb2 (by simp; exact Nat.le_succ_of_le hbl.size)
        cases hs : small f
        · have hno : Hid (fs.all small = false) := Lib.hid (all_at_no hf hs)
          clear hs hall h1 h2 h3
          go_wp2_with fail
          go_ret
          exact ⟨by rw [hno.out, Bool.and_false]; rfl, hbl2⟩
        · have hyes : Hid ((fs.take (k + 1)).all small = true) := Lib.hid (all_at_yes hf hs hall.out)
          clear hs hall h1 h2 h3
          go_wp2_with fail
          go_roundw
          case rel => exact ⟨k + 1, by omega, by go_num, hyes, hbl2⟩
          case measure => simp [intOf]; omega
      · have hkn' : k = n := by omega
        have hyes : Hid (fs.all small = true) := Lib.hid (by rw [← hall.out, List.take_of_length_le (by rw [hr.len]; omega)])
        subst hkn'
        clear hall
        go_wp2_with fail
        go_ret
        exact ⟨by rw [hyes.out, decide_eq_true h]; rfl, hbl⟩
  · have h' : Hid (¬ n ≤ 2147483647) := Lib.hid h
    go_enter Try.func18, Try.ntmps18
    go_wp2_with fail
    go_ret
    exact ⟨by rw [decide_eq_false h'.out]; rfl, Below.refl _ _⟩
end Go.Proofs.Ytkpcepdalegmmaa
