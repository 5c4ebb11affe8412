/- Commands: the walks of (*Cmd).unmarshalZMTP, ZZParseCommand. -/
import Derived.Test.YtkpcepdalegmmaaSlice
namespace Go.Proofs.Ytkpcepdalegmmaa
open Go.RowKit

/-- What a command that is none comes to: an error, nothing written. -/
def BadCmd (w : World) (e : Ending) (w' : World) : Prop := (∃ s, e = .returned (.iface 110 (.string s))) ∧ w = w'

theorem unmarshal_none (p : Addr) (A : Option Addr) (c : Nat) (w : World) : Calls Try.prog 56 #[.pointer (some p), .slice A 0 c] w (BadCmd w) := by
  go_enter Try.func56, Try.ntmps56
  go_wp2
  go_ret
  exact ⟨⟨_, rfl⟩, rfl⟩

theorem unmarshal_cut (p : Addr) (A : Option Addr) (n c : Nat) (k : UInt8) (l : List UInt8) (w : World) {B : Nat} (hr : RB w B A n (k :: l)) (hn : n ≤ 2147483647) (hk : n ≤ k.toNat) :
    Calls Try.prog 56 #[.pointer (some p), .slice A n c] w (BadCmd w) := by
  have hlen := hr.len
  simp only [List.length_cons] at hlen
  obtain ⟨ad, rfl, hb, hc⟩ := hr.cell (k := 0) (by omega)
  rw [Addr.add_zero'] at hc
  simp only [List.getD_cons_zero] at hc
  have h1 : 1 ≤ n := by omega
  have e0 : ((n : Int) == 0) = false := by rw [beq_eq_false_iff_ne]; omega
  have hk' := k.toNat_lt
  clear hr hlen
  go_enter Try.func56, Try.ntmps56
  go_wp2
  go_ret
  exact ⟨⟨_, rfl⟩, rfl⟩

set_option maxRecDepth 100000 in
theorem unmarshal_ok (g : Nat) (x y : Value) (A : Option Addr) (n c : Nat) (k : UInt8) (l : List UInt8) (w : World) {B : Nat} (hg : Blk w g 64 #[x, y]) (hr : RB w B A n (k :: l)) (hc : n ≤ c) (hn : n ≤ 2147483647) (hk : k.toNat < n) :
    Calls Try.prog 56 #[.pointer (some ⟨g, 0, none⟩), .slice A n c] w fun e w' => e = .returned .nilIface ∧
      w' = (w.setCell ⟨g, 0, none⟩ (.string ⟨(l.take k.toNat).toArray⟩)).setCell ⟨g, 1, none⟩ (.slice (cutA A c (k.toNat + 1)) (n - (k.toNat + 1)) (c - (k.toNat + 1))) := by
  have hs : ∀ W, (Instr.slice 22 (.slice A n c) (some (.int .i64 1)) (some (.int .i64 ((k.toNat : Int) + 1))) none).run Try.prog W = .ok (.slice (cutA A c 1) k.toNat (c - 1)) W := fun W => run_slice_lh A n c W 1 (k.toNat + 1) (by omega) (by omega)
  have hs2 : ∀ W, (Instr.slice 22 (.slice A n c) (some (.int .i64 ((k.toNat : Int) + 1))) none none).run Try.prog W = .ok (.slice (cutA A c (k.toNat + 1)) (n - (k.toNat + 1)) (c - (k.toNat + 1))) W := fun W => run_slice_lo A n c W (k.toNat + 1) (by omega)
  have hstr := run_strB (c := c - 1) (hr.cutA_ (lo := 1) (hi := k.toNat + 1) (by omega) (by omega) hc)
  have hlen := hr.len
  simp only [List.length_cons] at hlen
  obtain ⟨ad, hA, hb, hcell⟩ := hr.cell (k := 0) (by omega)
  rw [Addr.add_zero'] at hcell
  simp only [List.getD_cons_zero, List.drop_succ_cons, List.drop_zero, Nat.add_sub_cancel] at hcell hstr
  have h1 : 1 ≤ n := by omega
  have e0 : ((n : Int) == 0) = false := by rw [beq_eq_false_iff_ne]; omega
  have hk' := k.toNat_lt
  clear hr hlen
  generalize cutA A c 1 = A1 at *
  generalize cutA A c (k.toNat + 1) = A2 at *
  have d0 := hg.cell 0
  have d1 := hg.cell 1
  have f0 := hg.frozen 0
  have f1 := hg.frozen 1
  simp only [List.getElem?_toArray, List.getElem?_cons_zero, List.getElem?_cons_succ] at d0 d1
  subst hA
  go_enter Try.func56, Try.ntmps56
  go_wp2
  go_ret
  exact ⟨rfl, rfl⟩

theorem unmarshal_bad (p : Addr) (A : Option Addr) (n c : Nat) (l : List UInt8) (w : World) {B : Nat} (hr : RB w B A n l) (hn : n ≤ 2147483647) (hk : ∀ k r, l = k :: r → n ≤ k.toNat) :
    Calls Try.prog 56 #[.pointer (some p), .slice A n c] w (BadCmd w) := by
  cases l with
  | nil =>
    obtain rfl : n = 0 := hr.len.symm
    exact unmarshal_none p A c w
  | cons k r => exact unmarshal_cut p A n c k r w hr hn (hk k r rfl)

theorem ZZParse_cut (A : Option Addr) (n c : Nat) (l : List UInt8) (w : World) (hr : RB w w.heap.size A n l) (hn : n ≤ 2147483647) (hk : ∀ k r, l = k :: r → n ≤ k.toNat) :
    Calls Try.prog 34 #[.slice A n c] w fun e w' => (∃ s, e = .returned (.tuple #[.agg #[.string ⟨#[]⟩, .slice none 0 0], .iface 110 (.string s)])) ∧ Below w.heap.size w w' := by
  go_enter Try.func34, Try.ntmps34
  go_wp2_with fail
  refine (unmarshal_bad _ A n c l _ ((hr.new _).new _) hn hk).mono ?_
  rintro e w' ⟨⟨s, rfl⟩, rfl⟩
  go_wp2_with fail
  refine bodyPost_ret (v := .tuple #[.agg #[.string ⟨#[]⟩, .slice none 0 0], .iface 110 (.string s)]) (by simp [results, Try.results34, go_sem]) rfl ⟨⟨s, rfl⟩, ?_⟩
  exact below_new (below_new (Below.refl _ _))

theorem ZZParse_ok (A : Option Addr) (n c : Nat) (k : UInt8) (l : List UInt8) (w : World) (hr : RB w w.heap.size A n (k :: l)) (hc : n ≤ c) (hn : n ≤ 2147483647) (hk : k.toNat < n) :
    Calls Try.prog 34 #[.slice A n c] w fun e w' => (∃ A2 n2 c2, e = .returned (.tuple #[.agg #[.string ⟨(l.take k.toNat).toArray⟩, .slice A2 n2 c2], .nilIface]) ∧ RB w' w.heap.size A2 n2 (l.drop k.toNat) ∧ n2 ≤ 2147483647) ∧ Below w.heap.size w w' := by
  have hr2 := hr.cutEnd (lo := k.toNat + 1) (by omega) hc
  rw [List.drop_succ_cons] at hr2
  go_enter Try.func34, Try.ntmps34
  go_wp2_with fail
  have b2 := Blk.new (w.alloc (.cells #[.string ⟨#[]⟩, .slice none 0 0] 64)) 64 #[.string ⟨#[]⟩, .slice none 0 0]
  rw [World.size_alloc] at b2
  refine (unmarshal_ok (w.heap.size + 1) _ _ A n c k l _ b2 ((hr.new _).new _) hc hn hk).mono ?_
  rintro e w' ⟨rfl, rfl⟩
  go_wp2_with fail
  refine bodyPost_ret (v := .tuple #[.agg #[.string ⟨(l.take k.toNat).toArray⟩, .slice (cutA A c (k.toNat + 1)) (n - (k.toNat + 1)) (c - (k.toNat + 1))], .nilIface])
    (by simp [results, Try.results34, go_sem]) rfl ⟨⟨_, _, _, rfl, ?_, by omega⟩, ?_⟩
  · exact (hr2.alloc (Nat.le_refl _) _).alloc (by simp) _
  · exact below_new (below_new (Below.refl _ _))
end Go.Proofs.Ytkpcepdalegmmaa
