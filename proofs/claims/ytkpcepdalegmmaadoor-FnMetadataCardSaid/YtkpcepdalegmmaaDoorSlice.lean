/- Slices of a slice: s[lo:hi], s[lo:], s[:hi]. -/
import Derived.Test.YtkpcepdalegmmaaDoorBytes3
namespace Go.Proofs.YtkpcepdalegmmaaDoor
open Go.RowKit

/-- Where 's[k:]' begins. -/
def cutA (A : Option Addr) (c k : Nat) : Option Addr := if c = k then A else A.map (·.add k)

theorem RB.cutA_ {w : World} {B n c lo hi : Nat} {A : Option Addr} {l : List UInt8} (h : RB w B A n l) (h1 : lo ≤ hi) (h2 : hi ≤ n) (hc : n ≤ c) : RB w B (cutA A c lo) (hi - lo) ((l.drop lo).take (hi - lo)) :=
  (h.cut (k := lo) (cap := c) (by omega) hc).take (by omega)
theorem RB.cutEnd {w : World} {B n c lo : Nat} {A : Option Addr} {l : List UInt8} (h : RB w B A n l) (h1 : lo ≤ n) (hc : n ≤ c) : RB w B (cutA A c lo) (n - lo) (l.drop lo) :=
  h.cut (k := lo) (cap := c) h1 hc

section
variable (A : Option Addr) (n c : Nat) (w : World)
theorem run_slice_lh (lo hi : Nat) (h1 : lo ≤ hi) (h2 : hi ≤ c) :
    (Instr.slice 30 (.slice A n c) (some (.int .i64 lo)) (some (.int .i64 hi)) none).run Tryd.prog w = .ok (.slice (cutA A c lo) (hi - lo) (c - lo)) w := by
  obtain ⟨i, hi0, _, hz1, _⟩ := info_parts Tryd.info_u8
  simp [Instr.slice, run_underlying Tryd.u_bytes, Instr.sliceBounds, Instr.sliceBound, asIntOf, sizeOf, typeInfo, hi0, hz1, h1, h2, cutA]
theorem run_slice_lo (lo : Nat) (h1 : lo ≤ n) :
    (Instr.slice 30 (.slice A n c) (some (.int .i64 lo)) none none).run Tryd.prog w = .ok (.slice (cutA A c lo) (n - lo) (c - lo)) w := by
  obtain ⟨i, hi0, _, hz1, _⟩ := info_parts Tryd.info_u8
  simp [Instr.slice, run_underlying Tryd.u_bytes, Instr.sliceBounds, Instr.sliceBound, asIntOf, sizeOf, typeInfo, hi0, hz1, h1, cutA]
theorem run_slice_hi (hi : Nat) (h2 : hi ≤ c) :
    (Instr.slice 30 (.slice A n c) none (some (.int .i64 hi)) none).run Tryd.prog w = .ok (.slice A hi c) w := by
  obtain ⟨i, hi0, _, _, _⟩ := info_parts Tryd.info_u8
  simp [Instr.slice, run_underlying Tryd.u_bytes, Instr.sliceBounds, Instr.sliceBound, asIntOf, sizeOf, typeInfo, hi0, h2, Addr.add]
end
end Go.Proofs.YtkpcepdalegmmaaDoor
