/- bePutUint32, bePutUint64. -/
import Derived.Test.YtkpcepdalegmmaaBe
namespace Go.Proofs.Ytkpcepdalegmmaa
open Go.RowKit

def noughts8 : List UInt8 := [0, 0, 0, 0, 0, 0, 0, 0]
set_option maxRecDepth 100000 in
theorem bePutUint32 (g off n c v : Nat) (T : TypeId) (L : List UInt8) (w : World) (hg : BB w g T L) (hn : 4 ≤ n) (hn2 : n ≤ 1099511627776) (hfit : off + 4 ≤ L.length) (hv : v < 4294967296) :
    Calls Try.prog 101 #[.slice (some ⟨g, off, none⟩) n c, .int .u32 (v : Int)] w fun ed w' => ed = .returned (.tuple #[]) ∧ BB w' g T ((((L.set off (UInt8.ofNat (v / 16777216))).set (off + 1) (UInt8.ofNat (v / 65536))).set (off + 2) (UInt8.ofNat (v / 256))).set (off + 3) (UInt8.ofNat v)) ∧ Apart [g] w w' ∧ w'.heap.size = w.heap.size := by
  have c0 := hg.cell (i := off) (by omega)
  have c1 := hg.cell (i := off + 1) (by omega)
  have c2 := hg.cell (i := off + 2) (by omega)
  have c3 := hg.cell (i := off + 3) (by omega)
  have f0 := hg.frozen off
  have f1 := hg.frozen (off + 1)
  have f2 := hg.frozen (off + 2)
  have f3 := hg.frozen (off + 3)
  go_enter Try.func101, Try.ntmps101
  go_wp2_with fail
  have e : ∀ y : Nat, ((UInt8.ofNat y).toNat : Int) = (y : Int) % 256 := fun y => by
    have : (UInt8.ofNat y).toNat = y % 256 := by simp
    rw [this]; omega
  have e0 : (v : Int) / 16777216 = ((UInt8.ofNat (v / 16777216)).toNat : Int) := by rw [e]; omega
  have e1 : (v : Int) / 65536 % 256 = ((UInt8.ofNat (v / 65536)).toNat : Int) := by rw [e]; omega
  have e2 : (v : Int) / 256 % 256 = ((UInt8.ofNat (v / 256)).toNat : Int) := by rw [e]; omega
  have e3 : (v : Int) % 256 = ((UInt8.ofNat v).toNat : Int) := by rw [e]
  rw [e1, e2, e0, e3]
  refine bodyPost_end (results_none rfl _ _ _) rfl ⟨rfl, (((hg.set _ _).set _ _).set _ _).set _ _, ((((Apart.refl _ _).setN (.inl (by simp)) _).setN (.inl (by simp)) _).setN (.inl (by simp)) _).setN (.inl (by simp)) _, by simp⟩

set_option maxRecDepth 100000 in
theorem bePutUint64 (g k : Nat) (T : TypeId) (f : UInt8) (w : World) (hg : BB w g T (f :: noughts8)) (hk : k ≤ 1000) :
    Calls Try.prog 94 #[.slice (some ⟨g, 1, none⟩) 8 8, .int .u64 (k : Int)] w fun ed w' => ed = .returned (.tuple #[]) ∧ BB w' g T (f :: be8 k) ∧ Apart [g] w w' ∧ w'.heap.size = w.heap.size := by
  have c8 := hg.cell (i := 8) (by simp [noughts8])
  have hs : ∀ W, (Instr.slice 22 (.slice (some ⟨g, 1, none⟩) 8 8) (some (.int .i64 4)) none none).run Try.prog W = .ok (.slice (some ⟨g, 5, none⟩) 4 4) W := fun W => run_slice_lo (some ⟨g, 1, none⟩) 8 8 W 4 (by decide)
  go_enter Try.func94, Try.ntmps94
  have hz : (k : Int) / 4294967296 = ((0 : Nat) : Int) := by omega
  have hu : UInt8.ofNat (k / 16777216) = 0 ∧ UInt8.ofNat (k / 65536) = 0 := by
    rw [Nat.div_eq_of_lt (by omega), Nat.div_eq_of_lt (by omega)]
    exact ⟨rfl, rfl⟩
  have HU := Lib.hid hu
  clear hu
  go_wp2_with fail
  refine (bePutUint32 g 1 8 8 0 T _ w hg (by decide) (by decide) (by simp [noughts8]) (by decide)).mono ?_
  rintro e w1 ⟨rfl, hg1, ha1, hs1⟩
  have HS1 := Lib.hid hs1
  clear hs1
  go_wp2_with fail
  refine (bePutUint32 g 5 4 4 k T _ w1 hg1 (by decide) (by decide) (by simp [noughts8]) (by omega)).mono ?_
  rintro e w2 ⟨rfl, hg2, ha2, hs2⟩
  have HS2 := Lib.hid hs2
  clear hs2
  rw [HU.out.1, HU.out.2] at hg2
  go_wp2_with fail
  refine bodyPost_end (results_none rfl _ _ _) rfl ⟨rfl, hg2, ha1.trans ha2, HS2.out.trans HS1.out⟩
end Go.Proofs.Ytkpcepdalegmmaa
