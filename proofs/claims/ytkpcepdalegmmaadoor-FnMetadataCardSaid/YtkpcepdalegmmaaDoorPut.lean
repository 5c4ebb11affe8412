/- bePutUint32, bePutUint64. -/
import Derived.Test.YtkpcepdalegmmaaDoorBe
namespace Go.Proofs.YtkpcepdalegmmaaDoor
open Go.RowKit

def noughts8 : List UInt8 := [0, 0, 0, 0, 0, 0, 0, 0]
set_option maxRecDepth 100000 in
theorem bePutUint32 (g off n c v : Nat) (T : TypeId) (L : List UInt8) (w : World) (hg : BB w g T L) (hn : 4 ≤ n) (hn2 : n ≤ 1099511627776) (hfit : off + 4 ≤ L.length) (hv : v < 4294967296) :
    Calls Tryd.prog 74 #[.slice (some ⟨g, off, none⟩) n c, .int .u32 (v : Int)] w fun ed w' => ed = .returned (.tuple #[]) ∧ BB w' g T ((((L.set off (UInt8.ofNat (v / 16777216))).set (off + 1) (UInt8.ofNat (v / 65536))).set (off + 2) (UInt8.ofNat (v / 256))).set (off + 3) (UInt8.ofNat v)) ∧ Apart [g] w w' ∧ w'.heap.size = w.heap.size := by
  have c0 := hg.cell (i := off) (by omega)
  have c1 := hg.cell (i := off + 1) (by omega)
  have c2 := hg.cell (i := off + 2) (by omega)
  have c3 := hg.cell (i := off + 3) (by omega)
  have f0 := hg.frozen off
  have f1 := hg.frozen (off + 1)
  have f2 := hg.frozen (off + 2)
  have f3 := hg.frozen (off + 3)
  go_enter Tryd.func74, Tryd.ntmps74
  go_wp2_with fail
  have e : ∀ y : Nat, ((UInt8.ofNat y).toNat : Int) = (y : Int) % 256 := fun y => by
    have : (UInt8.ofNat y).toNat = y % 256 := by simp
    rw [this]; omega
  have e0 : (v : Int) / 16777216 = ((UInt8.ofNat (v / 16777216)).toNat : Int) := by rw [e]; omega
  have e1 : (v : Int) / 65536 % 256 = ((UInt8.ofNat (v / 65536)).toNat : Int) := by rw [e]; omega
  have e2 : (v : Int) / 256 % 256 = ((UInt8.ofNat (v / 256)).toNat : Int) := by rw [e]; omega
  have e3 : (v : Int) % 256 = ((UInt8.ofNat v).toNat : Int) := by rw [e]
  rw [e1, e2, e0, e3]
  refine bodyPost_end (results_none rfl _ _ _) rfl ⟨rfl, (((hg.set _ _).set _ _).set _ _).set _ _, ((((Apart.refl _ _).setN (.inl (by simp)) _).setN (.inl (by simp)) _).setN (.inl (by simp)) _).setN (.inl (by simp)) _, by simp⟩

end Go.Proofs.YtkpcepdalegmmaaDoor
