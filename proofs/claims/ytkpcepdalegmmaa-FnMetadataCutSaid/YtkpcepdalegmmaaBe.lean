/- beUint32, beUint64. -/
import Derived.Test.YtkpcepdalegmmaaFr4
import Derived.Test.YtkpcepdalegmmaaArr
import Derived.Test.YtkpcepdalegmmaaSlice
import Derived.Deep.QuietTactic
import Derived.Laws.Bits64b
import Derived.BigQuiet
namespace Go.Proofs.Ytkpcepdalegmmaa
open Go.RowKit

theorem bits_or_u32_nat (a b : Nat) (ha : a < 4294967296) (hb : b < 4294967296) : bits .or .u32 (a : Int) (b : Int) = ((a ||| b : Nat) : Int) := by
  have hx : a ||| b < 2 ^ 32 := Nat.or_lt_two_pow (by omega) (by omega)
  have h1 : (BitVec.ofInt 32 (a : Int)).toNat = a := by
    rw [BitVec.ofInt_natCast, BitVec.toNat_ofNat]; exact Nat.mod_eq_of_lt (by omega)
  have h2 : (BitVec.ofInt 32 (b : Int)).toNat = b := by
    rw [BitVec.ofInt_natCast, BitVec.toNat_ofNat]; exact Nat.mod_eq_of_lt (by omega)
  show IntKind.u32.wrap ((BitVec.ofInt 32 (a : Int) ||| BitVec.ofInt 32 (b : Int)).toNat : Int) = _
  rw [BitVec.toNat_or, h1, h2]
  simp [IntKind.wrap, IntKind.bits, IntKind.signed]
  omega
/-- An 'or' of what shares no bit is a sum. -/
theorem or_u32_add (k x y : Nat) (hx : x < 2 ^ k) (hk : k ≤ 32) (hy : y * 2 ^ k < 4294967296) : bits .or .u32 (x : Int) ((y * 2 ^ k : Nat) : Int) = ((x + y * 2 ^ k : Nat) : Int) := by
  have hp : 2 ^ k ≤ 2 ^ 32 := Nat.pow_le_pow_right (by decide) hk
  rw [bits_or_u32_nat x (y * 2 ^ k) (by omega) hy, Nat.or_comm, Nat.mul_comm y, ← Nat.two_pow_add_eq_or_of_lt hx, Nat.add_comm]
theorem be32_sum (a b d e : UInt8) : bits .or .u32 (bits .or .u32 (bits .or .u32 (e.toNat : Int) ((d.toNat : Int) * 256)) ((b.toNat : Int) * 65536)) ((a.toNat : Int) * 16777216) = ((a.toNat * 16777216 + b.toNat * 65536 + d.toNat * 256 + e.toNat : Nat) : Int) := by
  have la := a.toNat_lt
  have lb := b.toNat_lt
  have ld := d.toNat_lt
  have le := e.toNat_lt
  have h1 := or_u32_add 8 e.toNat d.toNat (by omega) (by decide) (by omega)
  have h2 := or_u32_add 16 (e.toNat + d.toNat * 2 ^ 8) b.toNat (by omega) (by decide) (by omega)
  have h3 := or_u32_add 24 (e.toNat + d.toNat * 2 ^ 8 + b.toNat * 2 ^ 16) a.toNat (by omega) (by decide) (by omega)
  rw [Int.natCast_mul] at h1 h2 h3
  have e1 : (d.toNat : Int) * 256 = (d.toNat : Int) * ((2 ^ 8 : Nat) : Int) := rfl
  have e2 : (b.toNat : Int) * 65536 = (b.toNat : Int) * ((2 ^ 16 : Nat) : Int) := rfl
  have e3 : (a.toNat : Int) * 16777216 = (a.toNat : Int) * ((2 ^ 24 : Nat) : Int) := rfl
  rw [e1, h1, e2, h2, e3, h3]
  omega

set_option maxRecDepth 100000 in
theorem beUint32 (g off n c : Nat) (T : TypeId) (L : List UInt8) (w : World) (hg : BB w g T L) (hn : 4 ≤ n) (hn2 : n ≤ 1099511627776) (hfit : off + 4 ≤ L.length) (a b d e : UInt8) (ha : L.getD off 0 = a) (hb : L.getD (off + 1) 0 = b) (hd : L.getD (off + 2) 0 = d) (he : L.getD (off + 3) 0 = e) :
    Calls Try.prog 81 #[.slice (some ⟨g, off, none⟩) n c] w fun ed w' => ed = .returned (.int .u32 ((a.toNat * 16777216 + b.toNat * 65536 + d.toNat * 256 + e.toNat : Nat) : Int)) ∧ ∃ k, w' = w.drewN k := by
  have ca := hg.cell (i := off) (by omega)
  have cb := hg.cell (i := off + 1) (by omega)
  have cd := hg.cell (i := off + 2) (by omega)
  have ce := hg.cell (i := off + 3) (by omega)
  rw [ha] at ca
  rw [hb] at cb
  rw [hd] at cd
  rw [he] at ce
  clear ha hb hd he
  have la := a.toNat_lt
  have lb := b.toNat_lt
  have ld := d.toNat_lt
  have le := e.toNat_lt
  go_enter Try.func81, Try.ntmps81
  go_wp2_with fail
  go_quiet (fail)
  rename_i aK
  refine aK _ _ ?_
  go_wp2_with fail
  go_ret
  exact ⟨congrArg (fun v => Ending.returned (.int .u32 v)) (be32_sum a b d e), _, rfl⟩

set_option maxRecDepth 100000 in
theorem beUint64 (g c k : Nat) (T : TypeId) (w : World) (hk : k ≤ 1000) (hg : BB w g T (be8 k)) (hc : 8 ≤ c) :
    Calls Try.prog 78 #[.slice (some ⟨g, 0, none⟩) 8 c] w fun ed w' => ed = .returned (.int .u64 (k : Int)) ∧ Apart [] w w' ∧ w'.heap.size = w.heap.size := by
  have hs : ∀ W, (Instr.slice 22 (.slice (some ⟨g, 0, none⟩) 8 c) (some (.int .i64 4)) none none).run Try.prog W = .ok (.slice (cutA (some ⟨g, 0, none⟩) c 4) 4 (c - 4)) W := fun W => run_slice_lo (some ⟨g, 0, none⟩) 8 c W 4 (by decide)
  have hA : cutA (some ⟨g, 0, none⟩) c 4 = some ⟨g, 4, none⟩ := by
    unfold cutA
    rw [if_neg (by omega)]
    rfl
  have c7 := hg.cell (i := 7) (by simp [be8])
  have hlo : (UInt8.ofNat k).toNat = k % 256 := by simp
  have hhi : (UInt8.ofNat (k / 256)).toNat = k / 256 := by generalize h : k / 256 = y; simp; omega
  have HL := Lib.hid hlo
  have HH := Lib.hid hhi
  clear hlo hhi
  rw [hA] at hs
  clear hA
  go_enter Try.func78, Try.ntmps78
  go_wp2_with fail
  refine Calls.mono (R := fun ed w' => ed = .returned (.int .u32 (k : Int)) ∧ ∃ j, w' = w.drewN j) ?_ ?_
  · refine (beUint32 g 4 4 (c - 4) T (be8 k) w hg (by decide) (by decide) (by simp [be8]) 0 0 (UInt8.ofNat (k / 256)) (UInt8.ofNat k) rfl rfl rfl rfl).mono ?_
    rintro e w' ⟨rfl, hw⟩
    refine ⟨?_, hw⟩
    have e1 : (0 : UInt8).toNat * 16777216 + (0 : UInt8).toNat * 65536 + (UInt8.ofNat (k / 256)).toNat * 256 + (UInt8.ofNat k).toNat = k := by
      rw [HL.out, HH.out]
      show 0 * 16777216 + 0 * 65536 + k / 256 * 256 + k % 256 = k
      omega
    rw [e1]
  rintro e w' ⟨rfl, j, rfl⟩
  go_wp2_with fail
  refine Calls.mono (R := fun ed w' => ed = .returned (.int .u32 0) ∧ ∃ i, w' = (w.drewN j).drewN i) ?_ ?_
  · refine (beUint32 g 0 8 c T (be8 k) (w.drewN j) hg (by decide) (by decide) (by simp [be8]) 0 0 0 0 rfl rfl rfl rfl).mono ?_
    rintro e w' ⟨rfl, hw⟩
    exact ⟨rfl, hw⟩
  rintro e w' ⟨rfl, i, rfl⟩
  have hor : bits .or .u64 (k : Int) 0 = (k : Int) := by
    have := bits_or_u64_nat k 0 (by omega) (by decide)
    rw [Nat.or_zero] at this
    exact this
  go_wp2_with fail
  go_ret
  exact ⟨rfl, (Apart.refl _ _).drewN _, rfl⟩
end Go.Proofs.Ytkpcepdalegmmaa
