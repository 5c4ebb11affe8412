/- Greetings: indexByte, asString. -/
import Derived.Test.YtkpcepdalegmmaaUnm
import Derived.WalkKit
namespace Go.Proofs.Ytkpcepdalegmmaa
open Go.RowKit

theorem u8_nz {x : UInt8} (h : x ≠ 0) : ((x.toNat : Int) == 0) = false := by
  rw [beq_eq_false_iff_ne]
  exact fun e => h (UInt8.toNat_inj.1 (Int.ofNat.inj e))

set_option maxRecDepth 100000 in
theorem indexByte (g off n c k : Nat) (T : TypeId) (L : List UInt8) (w : World) (hg : BB w g T L) (hn : n ≤ 1099511627776) (hfit : off + n ≤ L.length) (hk : k ≤ n) (hnz : ∀ j, j < k → L.getD (off + j) 0 ≠ 0) (hz : k < n → L.getD (off + k) 0 = 0) :
    Calls Try.prog 73 #[.slice (some ⟨g, off, none⟩) n c, .int .u8 0] w fun e w' => e = .returned (.int .i64 (if k < n then (k : Int) else -1)) ∧ w = w' := by
  go_enter Try.func73, Try.ntmps73
  go_wp2
  go_loop [9] (fun i => ∃ j : Nat, j ≤ k ∧ i = .int .i64 j) (fun i => n - (intOf i).toNat)
  case atStart => exact ⟨0, Nat.zero_le _, rfl⟩
  case round =>
    obtain ⟨j, hj, rfl⟩ := hrel
    by_cases hjn : j < n
    · have c0 := hg.cell (i := off + j) (by omega)
      by_cases hjk : j < k
      · have e0 := u8_nz (hnz j hjk)
        generalize L.getD (off + j) 0 = x at *
        clear hnz hz
        go_wp2
        go_round
        case rel => exact ⟨j + 1, by omega, by go_num⟩
        case measure => simp [intOf]; omega
      · have hjk' : j = k := by omega
        subst hjk'
        have hz' := hz hjn
        rw [hz'] at c0
        have c0' : w.cell? ⟨g, off + j, none⟩ = some (.int .u8 0) := c0
        clear hnz hz hz' c0
        go_wp2
        go_ret
        exact ⟨rfl, rfl⟩
    · have : j = n := by omega
      subst this
      have hkj : ¬ k < j := by omega
      clear hnz hz
      go_wp2
      go_ret
      exact ⟨rfl, rfl⟩

set_option maxRecDepth 100000 in
theorem asString (g off n c k : Nat) (T : TypeId) (L : List UInt8) (w : World) (hg : BB w g T L) (hn : n ≤ 1099511627776) (hfit : off + n ≤ L.length) (hk : k ≤ n) (hc : n ≤ c) (hnz : ∀ j, j < k → L.getD (off + j) 0 ≠ 0) (hz : k < n → L.getD (off + k) 0 = 0) :
    Calls Try.prog 59 #[.slice (some ⟨g, off, none⟩) n c] w fun e w' => e = .returned (.string ⟨((L.drop off).take k).toArray⟩) ∧ w = w' := by
  have hr := hg.rb (o := off) (n := k) (by omega)
  have hs : ∀ W, (Instr.slice 22 (.slice (some ⟨g, off, none⟩) n c) none (some (.int .i64 k)) none).run Try.prog W = .ok (.slice (some ⟨g, off, none⟩) k c) W := fun W => run_slice_hi (some ⟨g, off, none⟩) n c W k (by omega)
  have hv := run_strB (c := c) hr
  go_enter Try.func59, Try.ntmps59
  go_wp2_with fail
  refine (indexByte g off n c k T L w hg hn hfit hk hnz hz).mono ?_
  rintro e w2 ⟨rfl, rfl⟩
  by_cases hkn : k < n
  · rw [if_pos hkn]
    clear hnz hz
    go_wp2_with fail
    go_ret
    exact ⟨rfl, rfl⟩
  · rw [if_neg hkn]
    have : k = n := by omega
    subst this
    clear hnz hz
    go_wp2_with fail
    go_ret
    exact ⟨rfl, rfl⟩
end Go.Proofs.Ytkpcepdalegmmaa
