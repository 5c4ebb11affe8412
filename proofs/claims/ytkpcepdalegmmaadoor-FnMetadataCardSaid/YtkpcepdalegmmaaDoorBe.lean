/- beUint32, beUint64. -/
import Derived.Test.YtkpcepdalegmmaaDoorArr
import Derived.Test.YtkpcepdalegmmaaDoorSlice
import Derived.Deep.QuietTactic
import Derived.Laws.Bits64b
import Derived.BigQuiet
namespace Go.Proofs.YtkpcepdalegmmaaDoor
open Go.RowKit

theorem bits_or_u32_nat (a b : Nat) (ha : a < 4294967296) (hb : b < 4294967296) : bits .or .u32 (a : Int) (b : Int) = ((a ||| b : Nat) : Int) := by
  have hx : a ||| b < 2 ^ 32 := Nat.or_lt_two_pow (by omega) (by omega)
  have h1 : (BitVec.ofInt 32 (a : Int)).toNat = a := by
    rw [BitVec.ofInt_natCast, BitVec.toNat_ofNat]; exact Nat.mod_eq_of_lt (by omega)
  have h2 : (BitVec.ofInt 32 (b : Int)).toNat = b := by
    rw [BitVec.ofInt_natCast, BitVec.toNat_ofNat]; exact Nat.mod_eq_of_lt (by omega)
  show IntKind.u32.wrap ((BitVec.ofInt 32 (a : Int) ||| BitVec.ofInt 32 (b : Int)).toNat : Int) = _
  rw [BitVec.toNat_or, h1, h2]
  simp [IntKind.wrap, IntKind.bits, IntKind.signed]
  omega
/-- An 'or' of what shares no bit is a sum. -/
theorem or_u32_add (k x y : Nat) (hx : x < 2 ^ k) (hk : k ≤ 32) (hy : y * 2 ^ k < 4294967296) : bits .or .u32 (x : Int) ((y * 2 ^ k : Nat) : Int) = ((x + y * 2 ^ k : Nat) : Int) := by
  have hp : 2 ^ k ≤ 2 ^ 32 := Nat.pow_le_pow_right (by decide) hk
  rw [bits_or_u32_nat x (y * 2 ^ k) (by omega) hy, Nat.or_comm, Nat.mul_comm y, ← Nat.two_pow_add_eq_or_of_lt hx, Nat.add_comm]
theorem be32_sum (a b d e : UInt8) : bits .or .u32 (bits .or .u32 (bits .or .u32 (e.toNat : Int) ((d.toNat : Int) * 256)) ((b.toNat : Int) * 65536)) ((a.toNat : Int) * 16777216) = ((a.toNat * 16777216 + b.toNat * 65536 + d.toNat * 256 + e.toNat : Nat) : Int) := by
  have la := a.toNat_lt
  have lb := b.toNat_lt
  have ld := d.toNat_lt
  have le := e.toNat_lt
  have h1 := or_u32_add 8 e.toNat d.toNat (by omega) (by decide) (by omega)
  have h2 := or_u32_add 16 (e.toNat + d.toNat * 2 ^ 8) b.toNat (by omega) (by decide) (by omega)
  have h3 := or_u32_add 24 (e.toNat + d.toNat * 2 ^ 8 + b.toNat * 2 ^ 16) a.toNat (by omega) (by decide) (by omega)
  rw [Int.natCast_mul] at h1 h2 h3
  have e1 : (d.toNat : Int) * 256 = (d.toNat : Int) * ((2 ^ 8 : Nat) : Int) := rfl
  have e2 : (b.toNat : Int) * 65536 = (b.toNat : Int) * ((2 ^ 16 : Nat) : Int) := rfl
  have e3 : (a.toNat : Int) * 16777216 = (a.toNat : Int) * ((2 ^ 24 : Nat) : Int) := rfl
  rw [e1, h1, e2, h2, e3, h3]
  omega

set_option maxRecDepth 100000 in
theorem beUint32 (g off n c : Nat) (T : TypeId) (L : List UInt8) (w : World) (hg : BB w g T L) (hn : 4 ≤ n) (hn2 : n ≤ 1099511627776) (hfit : off + 4 ≤ L.length) (a b d e : UInt8) (ha : L.getD off 0 = a) (hb : L.getD (off + 1) 0 = b) (hd : L.getD (off + 2) 0 = d) (he : L.getD (off + 3) 0 = e) :
    Calls Tryd.prog 41 #[.slice (some ⟨g, off, none⟩) n c] w fun ed w' => ed = .returned (.int .u32 ((a.toNat * 16777216 + b.toNat * 65536 + d.toNat * 256 + e.toNat : Nat) : Int)) ∧ ∃ k, w' = w.drewN k := by
  have ca := hg.cell (i := off) (by omega)
  have cb := hg.cell (i := off + 1) (by omega)
  have cd := hg.cell (i := off + 2) (by omega)
  have ce := hg.cell (i := off + 3) (by omega)
  rw [ha] at ca
  rw [hb] at cb
  rw [hd] at cd
  rw [he] at ce
  clear ha hb hd he
  have la := a.toNat_lt
  have lb := b.toNat_lt
  have ld := d.toNat_lt
  have le := e.toNat_lt
  go_enter Tryd.func41, Tryd.ntmps41
  go_wp2_with fail
  go_quiet (fail)
  rename_i aK
  refine aK _ _ ?_
  go_wp2_with fail
  go_ret
  exact ⟨congrArg (fun v => Ending.returned (.int .u32 v)) (be32_sum a b d e), _, rfl⟩

end Go.Proofs.YtkpcepdalegmmaaDoor
