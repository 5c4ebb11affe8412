/- laws.FnGreeting: the walk. -/
import Derived.Test.YtkpcepdalegmmaaFnGb
import Derived.Test.YtkpcepdalegmmaaGreet3
namespace Go.Proofs.Ytkpcepdalegmmaa
open Go.RowKit

theorem gr_small (M m : Int) (mech : ByteArray) (server : Bool) (w : World) (hn : mech.size ≤ maxLen) (h : 2147483647 < mech.size) :
    Calls Try.prog 5 #[.int .i64 M, .int .i64 m, .string mech, .bool server] w fun e w' => e = .returned (.bool true) ∧ Below w.heap.size w w' := by
  unfold maxLen at hn
  go_enter Try.func5, Try.ntmps5
  go_wp2_with fail
  go_ret
  exact ⟨rfl, Below.refl _ _⟩

theorem gr_other (M m : Int) (mech : ByteArray) (server : Bool) (w : World) (hn : mech.size ≤ 2147483647) (h : M ≠ 3 ∨ m < 0 ∨ 1 < m ∨ mechOk mech = false) :
    Calls Try.prog 5 #[.int .i64 M, .int .i64 m, .string mech, .bool server] w fun e w' => e = .returned (.bool true) ∧ Below w.heap.size w w' := by
  by_cases h0 : M = 3
  · have hh := h.resolve_left (fun e => e h0)
    clear h
    subst h0
    by_cases h1 : m < 0
    · clear hh
      go_enter Try.func5, Try.ntmps5
      go_wp2_with fail
      refine (works_any _).mono ?_
      rintro e w' ⟨rfl, hb⟩
      go_wp2_with fail
      go_ret
      exact ⟨rfl, hb⟩
    · by_cases h2 : 1 < m
      · clear hh
        go_enter Try.func5, Try.ntmps5
        go_wp2_with fail
        refine (works_any _).mono ?_
        rintro e w' ⟨rfl, hb⟩
        go_wp2_with fail
        go_ret
        exact ⟨rfl, hb⟩
      · have h3 := Lib.hid ((hh.resolve_left h1).resolve_left h2)
        clear hh
        go_enter Try.func5, Try.ntmps5
        go_wp2_with fail
        refine (spec_Mechanism mech w hn).mono ?_
        rintro e w' ⟨rfl, rfl⟩
        rw [h3.out]
        go_wp2_with fail
        refine (works_any _).mono ?_
        rintro e w' ⟨rfl, hb⟩
        go_wp2_with fail
        go_ret
        exact ⟨rfl, hb⟩
  · clear h
    have h0' : (M != 3) = true := by rw [bne_iff_ne]; exact h0
    go_enter Try.func5, Try.ntmps5
    go_wp2_with fail
    refine (works_any _).mono ?_
    rintro e w' ⟨rfl, hb⟩
    go_wp2_with fail
    go_ret
    exact ⟨rfl, hb⟩

set_option maxRecDepth 100000 in
theorem gr_main (b : UInt8) (hb1 : b.toNat ≤ 1) (mech : ByteArray) (server : Bool) (w : World) (hn : mech.size ≤ 20) (hk : mechOk mech = true) :
    Calls Try.prog 5 #[.int .i64 3, .int .i64 b.toNat, .string mech, .bool server] w fun e w' => e = .returned (.bool true) ∧ Below w.heap.size w w' := by
  have hz := Lib.hid (mech_parts hk).2
  have h3 := Lib.hid hk
  clear hk
  have hb2 : Hid (b = 0 ∨ b = 1) := Lib.hid (by
    rcases Nat.le_one_iff_eq_zero_or_eq_one.1 hb1 with h | h
    · exact .inl (UInt8.toNat_inj.1 h)
    · exact .inr (UInt8.toNat_inj.1 h))
  go_enter Try.func5, Try.ntmps5
  go_wp2_with fail
  refine (spec_Mechanism mech w (by omega)).mono ?_
  rintro e w' ⟨rfl, rfl⟩
  rw [h3.out]
  go_wp2_with fail
  refine (spec_Greeting 3 b mech server w hn).mono ?_
  rintro e w1 ⟨A1, c1, rfl, ho1, hbl1⟩
  go_wp2_with fail
  refine (FormatGreeting 3 b mech server w1 hn).mono ?_
  rintro e w2 ⟨A2, c2, rfl, hr2, hbl2⟩
  have hr1 := ho1.rb.after hbl2
  have hb12 := below_seq hbl1 hbl2 hbl1.size
  go_wp2_with fail
  refine (ParseGreeting A1 64 c1 _ 3 b ⟨mech.data.toList.toArray⟩ server true (answers_ok b mech.data.toList server (by simpa using hn) hz.out hb2.out) (fun h => by cases h) w2 hr1 (by decide)).mono ?_
  rintro e w3 ⟨rfl, hb3⟩
  have hb123 := below_seq hb12 hb3 hb12.size
  have s1 := run_strB (c := c1) (hr1.after hb3)
  have s2 := run_strB (c := c2) (hr2.rb.after hb3)
  have e3 : (⟨mech.data.toList.toArray⟩ : ByteArray) = mech := rfl
  rw [e3]
  clear hr1 hr2 ho1 hbl1 hbl2 hb12 hb3 hb2 hz h3
  go_wp2_with fail
  refine (works_any _).mono ?_
  rintro e w' ⟨rfl, hb⟩
  go_wp2_with fail
  go_ret
  exact ⟨rfl, below_seq hb123 hb hb123.size⟩

theorem FnGreeting_any (M m : Int) (mech : ByteArray) (server : Bool) (w : World) (hn : mech.size ≤ maxLen) :
    Calls Try.prog 5 #[.int .i64 M, .int .i64 m, .string mech, .bool server] w fun e w' => e = .returned (.bool true) ∧ Below w.heap.size w w' := by
  by_cases h1 : 2147483647 < mech.size
  · exact gr_small M m mech server w hn h1
  · by_cases h2 : M ≠ 3 ∨ m < 0 ∨ 1 < m ∨ mechOk mech = false
    · exact gr_other M m mech server w (by omega) h2
    · have hk : mechOk mech = true := Bool.of_not_eq_false fun e => h2 (.inr (.inr (.inr e)))
      obtain rfl : M = 3 := Decidable.of_not_not fun e => h2 (.inl e)
      have h4 : ¬ m < 0 := fun e => h2 (.inr (.inl e))
      have h5 : ¬ 1 < m := fun e => h2 (.inr (.inr (.inl e)))
      have h3 : (UInt8.ofNat m.toNat).toNat = m.toNat := by simp; omega
      have e : m = ((UInt8.ofNat m.toNat).toNat : Int) := by omega
      rw [e]
      exact gr_main _ (by omega) mech server w (mech_parts hk).1 hk
end Go.Proofs.Ytkpcepdalegmmaa
