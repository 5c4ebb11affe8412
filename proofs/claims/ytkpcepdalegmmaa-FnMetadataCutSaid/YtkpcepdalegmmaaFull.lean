/- readFull over a pipe. -/
import Derived.Test.YtkpcepdalegmmaaPipe
import Derived.Deep.RegionHeld3
namespace Go.Proofs.Ytkpcepdalegmmaa
open Go.RowKit

theorem run_slice_all (A : Option Addr) (n c : Nat) (W : World) : (Instr.slice 22 (.slice A n c) (some (.int .i64 0)) none none).run Try.prog W = .ok (.slice A n c) W := by
  have h := run_slice_lo A n c W 0 (Nat.zero_le _)
  have e : cutA A c 0 = A := by unfold cutA; cases A <;> simp [Addr.add]
  rw [e, Nat.sub_zero, Nat.sub_zero] at h
  exact h
theorem nil_Read (a : Addr) (w : World) : (nilAhead 300 75 (.pointer (some a)) "Read").run Try.prog w = .ok (some false) w := by kernel_rfl
theorem method_Read (a : Addr) (w : World) : (method 300 75 (.pointer (some a)) "Read").run Try.prog w = .ok (118, .pointer (some a)) w := by kernel_rfl

theorem eof_eof (W : World) : (binOp .eql 58 (.iface 110 (.string ⟨#[69, 79, 70]⟩)) (.iface 110 (.string ⟨#[69, 79, 70]⟩))).run Try.prog W = .ok (.bool true) W := by kernel_rfl
theorem eof_nil (W : World) : (binOp .eql 58 (.iface 110 (.string ⟨#[69, 79, 70]⟩)) .nilIface).run Try.prog W = .ok (.bool false) W := by kernel_rfl
theorem splice_nil (l : List UInt8) (off : Nat) : splice l off [] = l := by
  unfold splice
  simp

theorem readFull_zero (v : Value) (d0 : Option Addr) (cap : Nat) (w : World) :
    Calls Try.prog 69 #[v, .slice d0 0 cap] w fun e w' => e = .returned (.tuple #[.int .i64 0, .nilIface]) ∧ w' = w := by
  go_enter Try.func69, Try.ntmps69
  go_wp2_with fail
  refine wp_loop_rounds 1 ?_
  rw [rounds_succ]
  go_wp2_with fail
  go_ret2
  exact ⟨rfl, rfl⟩

set_option maxRecDepth 100000 in
theorem readFull_full (g d off : Nat) (T : TypeId) (IA : Option Addr) (n c m cap : Nat) (out : Value) (l inb : List UInt8) (w : World) (hg : Blk w g 77 #[.slice IA n c, out]) (hd : BB w d T l)
    (hr : RB w w.heap.size IA n inb) (hm : 0 < m) (hmn : m ≤ n) (hn : n ≤ 1099511627776) (hfit : off + m ≤ l.length) (hgd : g ≠ d) :
    Calls Try.prog 69 #[.iface 75 (.pointer (some ⟨g, 0, none⟩)), .slice (some ⟨d, off, none⟩) m cap] w fun e w' => e = .returned (.tuple #[.int .i64 m, .nilIface]) ∧ BB w' d T (splice l off (inb.take m)) ∧
      Blk w' g 77 #[.slice (cutA IA c m) (n - m) (c - m), out] ∧ Apart [d, g] w w' ∧ w'.heap.size = w.heap.size := by
  have na := nil_Read ⟨g, 0, none⟩
  have ma := method_Read ⟨g, 0, none⟩
  go_enter Try.func69, Try.ntmps69
  go_wp2_with fail
  refine wp_loop_rounds 2 ?_
  rw [rounds_succ]
  go_wp2_with fail
  have hs0 : ∀ W, (Instr.slice 22 (.slice (some ⟨d, off, none⟩) m cap) (some (.int .i64 0)) none none).run Try.prog W = .ok (.slice (some ⟨d, off, none⟩) m cap) W := fun W => run_slice_all _ m cap W
  go_region_held3 (fun _ => True) (trivial)
    (first
      | (go_at_call 118
         refine (Read_some g d off T IA n c m cap m out l inb _ hg.drew hd.drew hr.drew (by omega) (Nat.min_eq_right hmn) hfit hgd).mono ?_
         rintro e w2 ⟨rfl, hd2, hg2, ha2, hs2⟩))
  rename_i aK _
  refine aK _ _ ?_
  go_wp2_with fail
  rw [rounds_succ]
  go_wp2_with fail
  go_ret2
  exact ⟨rfl, hd2, hg2, (Apart.refl _ _).drew.trans ha2, hs2⟩

set_option maxRecDepth 100000 in
theorem readFull_eof (g : Nat) (b : Option Addr) (IA : Option Addr) (c m cap : Nat) (out : Value) (w : World) (hg : Blk w g 77 #[.slice IA 0 c, out]) (hm : 0 < m) (hm2 : m ≤ 1099511627776) :
    Calls Try.prog 69 #[.iface 75 (.pointer (some ⟨g, 0, none⟩)), .slice b m cap] w fun e w' => e = .returned (.tuple #[.int .i64 0, .iface 110 (.string eofS)]) ∧ Apart [] w w' ∧ w'.heap.size = w.heap.size := by
  have na := nil_Read ⟨g, 0, none⟩
  have ma := method_Read ⟨g, 0, none⟩
  have en := eof_nil
  go_enter Try.func69, Try.ntmps69
  go_wp2_with fail
  refine wp_loop_rounds 2 ?_
  rw [rounds_succ]
  go_wp2_with fail
  have hs0 : ∀ W, (Instr.slice 22 (.slice b m cap) (some (.int .i64 0)) none none).run Try.prog W = .ok (.slice b m cap) W := fun W => run_slice_all _ m cap W
  go_region_held3 (fun _ => True) (trivial)
    (first
      | (go_at_call 118
         refine (Read_none g IA c out _ _ hg.drew).mono ?_
         rintro e w2 ⟨rfl, rfl⟩))
  rename_i aK _
  refine aK _ _ ?_
  rw [show eofS = ⟨#[69, 79, 70]⟩ from rfl]
  go_wp2_with fail
  rw [rounds_succ]
  go_wp2_with fail
  go_ret2
  exact ⟨rfl, (Apart.refl _ _).drew, rfl⟩

set_option maxRecDepth 100000 in
theorem readFull_short (g d off : Nat) (T : TypeId) (IA : Option Addr) (n c m cap : Nat) (out : Value) (l inb : List UInt8) (w : World) (hg : Blk w g 77 #[.slice IA n c, out]) (hd : BB w d T l)
    (hr : RB w w.heap.size IA n inb) (hn : 0 < n) (hnm : n < m) (hm : m ≤ 1099511627776) (hfit : off + m ≤ l.length) (hgd : g ≠ d) :
    Calls Try.prog 69 #[.iface 75 (.pointer (some ⟨g, 0, none⟩)), .slice (some ⟨d, off, none⟩) m cap] w fun e w' => e = .returned (.tuple #[.int .i64 n, .iface 110 (.string endS)]) ∧ BB w' d T (splice l off inb) ∧
      Blk w' g 77 #[.slice (cutA IA c n) 0 (c - n), out] ∧ Apart [d, g] w w' ∧ w'.heap.size = w.heap.size := by
  have na := nil_Read ⟨g, 0, none⟩
  have ma := method_Read ⟨g, 0, none⟩
  have en := eof_nil
  have ee := eof_eof
  have ht : inb.take n = inb := by rw [List.take_of_length_le]; rw [hr.len]; exact Nat.le_refl _
  go_enter Try.func69, Try.ntmps69
  go_wp2_with fail
  refine wp_loop_rounds 3 ?_
  rw [rounds_succ]
  go_wp2_with fail
  have hs0 : ∀ W, (Instr.slice 22 (.slice (some ⟨d, off, none⟩) m cap) (some (.int .i64 0)) none none).run Try.prog W = .ok (.slice (some ⟨d, off, none⟩) m cap) W := fun W => run_slice_all _ m cap W
  go_region_held3 (fun _ => True) (trivial)
    (first
      | (go_at_call 118
         refine (Read_some g d off T IA n c m cap n out l inb _ hg.drew hd.drew hr.drew (by omega) (Nat.min_eq_left (Nat.le_of_lt hnm)) hfit hgd).mono ?_
         rintro e w2 ⟨rfl, hd2, hg2, ha2, hs2⟩
         rw [Nat.sub_self] at hg2
         rw [ht] at hd2))
  rename_i aK _
  refine aK _ _ ?_
  go_wp2_with fail
  rw [rounds_succ]
  go_wp2_with fail
  have hs1 : ∀ W, (Instr.slice 22 (.slice (some ⟨d, off, none⟩) m cap) (some (.int .i64 n)) none none).run Try.prog W = .ok (.slice (cutA (some ⟨d, off, none⟩) cap n) (m - n) (cap - n)) W := fun W => run_slice_lo _ m cap W n (Nat.le_of_lt hnm)
  go_region_held3 (fun _ => True) (trivial)
    (first
      | (go_at_call 118
         refine (Read_none g _ _ out _ _ hg2.drew).mono ?_
         rintro e w3 ⟨rfl, rfl⟩))
  rename_i aK _
  refine aK _ _ ?_
  rw [show eofS = ⟨#[69, 79, 70]⟩ from rfl]
  go_wp2_with fail
  rw [rounds_succ]
  go_wp2_with fail
  go_ret2
  exact ⟨rfl, hd2.drew, hg2.drew, ((Apart.refl _ _).drew.trans ha2).trans (Apart.refl _ _).drew, hs2⟩
end Go.Proofs.Ytkpcepdalegmmaa
