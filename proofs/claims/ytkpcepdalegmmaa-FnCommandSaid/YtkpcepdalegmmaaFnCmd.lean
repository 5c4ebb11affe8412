/- laws.FnCommand: the walk. -/
import Derived.Test.YtkpcepdalegmmaaCmd6
import Derived.Test.YtkpcepdalegmmaaName
namespace Go.Proofs.Ytkpcepdalegmmaa
open Go.RowKit

theorem cmd_len (name : ByteArray) (body : List UInt8) : (cmdBytes name body).length = 1 + name.size + body.length := by
  simp [cmdBytes]
  have : name.data.size = name.size := rfl
  omega
theorem cmd_name (name : ByteArray) (body : List UInt8) : ((name.data.toList ++ body).take name.size).toArray = name.data := by
  have h : name.size = name.data.toList.length := by simp
  rw [h, List.take_left]
theorem cmd_body (name : ByteArray) (body : List UInt8) : (name.data.toList ++ body).drop name.size = body := by
  have h : name.size = name.data.toList.length := by simp
  rw [h, List.drop_left]
theorem cmd_head (name : ByteArray) (h : name.size ≤ 255) : (UInt8.ofNat name.size).toNat = name.size := by
  simp; omega

theorem cmd_good (name : ByteArray) (body : List UInt8) (n : Nat) (hn : 1 + name.size ≤ n) (h : name.size ≤ 255) :
    ∃ k r, cmdBytes name body = k :: r ∧ k.toNat < n ∧ name = ⟨(r.take k.toNat).toArray⟩ ∧ body = r.drop k.toNat :=
  ⟨UInt8.ofNat name.size, name.data.toList ++ body, rfl, by rw [cmd_head name h]; omega, by rw [cmd_head name h, cmd_name], by rw [cmd_head name h, cmd_body]⟩
theorem cmd_bad (name : ByteArray) (body : List UInt8) (n : Nat) (hn : n ≤ name.size) (h : name.size ≤ 255) : ∀ k r, (cmdBytes name body).take n = k :: r → n ≤ k.toNat := by
  intro k r e
  cases n with
  | zero => exact Nat.zero_le _
  | succ n =>
    simp only [cmdBytes, List.cons_append, List.take_succ_cons, List.cons.injEq] at e
    rw [← e.1, cmd_head name h]
    exact hn

theorem law_small (name : ByteArray) (A : Option Addr) (m c : Nat) (N : Int) (w : World) (hn : name.size ≤ maxLen) (hm : m ≤ maxLen) (h : 2147483647 < name.size ∨ 2147483647 < m) :
    Calls Try.prog 3 #[.string name, .slice A m c, .int .i64 N] w fun e w' => e = .returned (.bool true) ∧ Below w.heap.size w w' := by
  unfold maxLen at hn hm
  by_cases h1 : 2147483647 < name.size
  · go_enter Try.func3, Try.ntmps3
    go_wp2_with fail
    go_ret
    exact ⟨rfl, Below.refl _ _⟩
  · have h2 : 2147483647 < m := by omega
    clear h
    go_enter Try.func3, Try.ntmps3
    go_wp2_with fail
    go_ret
    exact ⟨rfl, Below.refl _ _⟩

theorem law_other (name : ByteArray) (A : Option Addr) (m c : Nat) (N : Int) (w : World) (hn : name.size ≤ 2147483647) (hm : m ≤ 2147483647) (h : nameOk name = false ∨ 500 < m) :
    Calls Try.prog 3 #[.string name, .slice A m c, .int .i64 N] w fun e w' => e = .returned (.bool true) ∧ Below w.heap.size w w' := by
  by_cases h1 : nameOk name = false
  · have h1' := Lib.hid h1
    clear h1 h
    go_enter Try.func3, Try.ntmps3
    go_wp2_with fail
    refine (spec_Name name w hn).mono ?_
    rintro e w' ⟨rfl, rfl⟩
    rw [h1'.out]
    go_wp2_with fail
    refine (works_any _).mono ?_
    rintro e w' ⟨rfl, hb⟩
    go_wp2_with fail
    go_ret
    exact ⟨rfl, hb⟩
  · have h2 : 500 < m := h.resolve_left h1
    have h1' := Lib.hid (Bool.of_not_eq_false h1)
    clear h h1
    go_enter Try.func3, Try.ntmps3
    go_wp2_with fail
    refine (spec_Name name w hn).mono ?_
    rintro e w' ⟨rfl, rfl⟩
    rw [h1'.out]
    go_wp2_with fail
    refine (works_any _).mono ?_
    rintro e w' ⟨rfl, hb⟩
    go_wp2_with fail
    go_ret
    exact ⟨rfl, hb⟩

set_option maxRecDepth 100000 in
theorem law_main (name : ByteArray) (body : List UInt8) (A : Option Addr) (m c : Nat) (N : Int) (w : World) (h1 : nameOk name = true) (hs : name.size ≤ 255) (hm : m ≤ 500) (hr : RB w w.heap.size A m body) :
    Calls Try.prog 3 #[.string name, .slice A m c, .int .i64 N] w fun e w' => e = .returned (.bool true) ∧ Below w.heap.size w w' := by
  have h1' := Lib.hid h1
  clear h1
  go_enter Try.func3, Try.ntmps3
  go_wp2_with fail
  refine (spec_Name name w (by omega)).mono ?_
  rintro e w' ⟨rfl, rfl⟩
  rw [h1'.out]
  go_wp2_with fail
  refine (spec_Command name body A m c w (by omega) (by omega) hr).mono ?_
  rintro e w1 ⟨A1, c1, rfl, ho1, hb1⟩
  go_wp2_with fail
  refine (FormatCommand name body A m c w1 hs (by omega) (hr.after hb1)).mono ?_
  rintro e w2 ⟨A2, c2, rfl, ho2, hb2⟩
  have hr1 := ho1.rb.after hb2
  have hb12 := below_seq hb1 hb2 hb1.size
  go_wp2_with fail
  refine (ParseCommand A1 (1 + name.size + m) c1 _ w2 hr1 (by omega) name body true (.inl ⟨rfl, cmd_good name body _ (by omega) hs⟩)).mono ?_
  rintro e w3 ⟨A3, n3, c3, rfl, ho3, hb3⟩
  have hb13 := below_seq hb12 hb3 hb12.size
  have s1 := run_strB (c := c1) (hr1.after hb3)
  have s2 := run_strB (c := c2) (ho2.rb.after hb3)
  have s3 := run_strB (c := c3) ho3.rb
  have s4 := run_strB (c := c) (hr.after hb13)
  have hcap := ho1.cap.1
  have hr3 := hr1.after hb3
  clear hb1 hb2 hb3 hb12 ho2 hr1
  by_cases g0 : 0 ≤ N
  · by_cases g1 : N ≤ (name.size : Int)
    · obtain ⟨k, rfl⟩ := Int.eq_ofNat_of_zero_le g0
      have hk : k ≤ name.size := by omega
      have cut := fun W => run_slice_hi A1 (1 + name.size + m) c1 W k (by omega)
      have hrk := hr3.take (m := k) (by omega)
      clear hr ho3 hr3 hcap g0
      go_wp2_with fail
      refine (ParseCommand A1 k c1 _ w3 hrk (by omega) ⟨#[]⟩ [] false (.inr ⟨rfl, rfl, rfl, cmd_bad name body k hk hs⟩)).mono ?_
      rintro e w4 ⟨A4, n4, c4, rfl, ho4, hb4⟩
      have hb14 := below_seq hb13 hb4 hb13.size
      clear cut s1 s2 s3 s4
      go_wp2_with fail
      refine (works_any _).mono ?_
      rintro e w' ⟨rfl, hb⟩
      go_wp2_with fail
      go_ret
      exact ⟨rfl, below_seq hb14 hb hb14.size⟩
    · clear hr ho3 hr3 hcap
      go_wp2_with fail
      refine (works_any _).mono ?_
      rintro e w' ⟨rfl, hb⟩
      go_wp2_with fail
      go_ret
      exact ⟨rfl, below_seq hb13 hb hb13.size⟩
  · clear hr ho3 hr3 hcap
    go_wp2_with fail
    refine (works_any _).mono ?_
    rintro e w' ⟨rfl, hb⟩
    go_wp2_with fail
    go_ret
    exact ⟨rfl, below_seq hb13 hb hb13.size⟩

theorem FnCommand_any (name : ByteArray) (body : List UInt8) (A : Option Addr) (m c : Nat) (N : Int) (w : World) (hn : name.size ≤ maxLen) (hm : m ≤ maxLen) (hr : RB w w.heap.size A m body) :
    Calls Try.prog 3 #[.string name, .slice A m c, .int .i64 N] w fun e w' => e = .returned (.bool true) ∧ Below w.heap.size w w' := by
  by_cases h1 : 2147483647 < name.size ∨ 2147483647 < m
  · exact law_small name A m c N w hn hm h1
  · by_cases h2 : nameOk name = false ∨ 500 < m
    · exact law_other name A m c N w (by omega) (by omega) h2
    · have hk : nameOk name = true := Bool.of_not_eq_false fun e => h2 (.inl e)
      refine law_main name body A m c N w hk ?_ (by omega) hr
      simp only [nameOk, Bool.and_eq_true, decide_eq_true_eq] at hk
      exact hk.2
end Go.Proofs.Ytkpcepdalegmmaa
