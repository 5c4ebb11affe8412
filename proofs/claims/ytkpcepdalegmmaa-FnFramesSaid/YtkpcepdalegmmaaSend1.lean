/- Frames: (*ZZPipe).Write, nullSecurity.Encrypt. -/
import Derived.Test.YtkpcepdalegmmaaConn1
import Derived.Test.YtkpcepdalegmmaaPut
namespace Go.Proofs.Ytkpcepdalegmmaa
open Go.RowKit

set_option maxRecDepth 100000 in
theorem Write_any (p base on oc m c B : Nat) (iv : Value) (OA A : Option Addr) (ob l : List UInt8) (w : World) (hp : Blk w p 77 #[iv, .slice OA on oc]) (ho : OB w base OA on oc ob) (hr : RB w B A m l) (hsz : on + m ≤ 70368744177664) (hb : base ≤ w.heap.size) :
    Calls Try.prog 119 #[.pointer (some ⟨p, 0, none⟩), .slice A m c] w fun e w' => e = .returned (.tuple #[.int .i64 m, .nilIface]) ∧ ∃ OA' oc' v, OB v base OA' (on + m) oc' (ob ++ l) ∧ w.grownBy v (OA.map (·.block)) ∧ (OA' = OA ∨ OA' = some ⟨w.heap.size, 0, none⟩) ∧ w' = v.setCell ⟨p, 1, none⟩ (.slice OA' (on + m) oc') := by
  have c1 := hp.cell 1
  simp only [List.getElem?_toArray, List.getElem?_cons_zero, List.getElem?_cons_succ] at c1
  have hne : some p ≠ OA.map (·.block) := by
    have := own_blk_ne ho hp (by decide)
    cases OA with
    | none => simp
    | some ad =>
      simp [Value.ownBlock] at this ⊢
      exact fun e => this e.symm
  go_enter Try.func119, Try.ntmps119
  go_wp2_with (first
    | (at_builtin
       refine wpl_appB rfl (.tmp 10) (.tmp 11) 22 rfl base _ on oc ob rfl ho _ m l rfl (srcB hr) (on + m) rfl (by omega) hb ?_
       intro A1 c1' w1 ho1 hg1 ha1
       have hp1 := hp.grown hg1 hne
       have d1 := hp1.cell 1
       have f1 := hp1.frozen 1
       simp only [List.getElem?_toArray, List.getElem?_cons_zero, List.getElem?_cons_succ] at d1))
  go_ret2
  exact ⟨rfl, A1, c1', w1, ho1, hg1, ha1, rfl⟩

theorem nil_Write (a : Addr) (w : World) : (nilAhead 300 75 (.pointer (some a)) "Write").run Try.prog w = .ok (some false) w := by kernel_rfl
theorem method_Write (a : Addr) (w : World) : (method 300 75 (.pointer (some a)) "Write").run Try.prog w = .ok (119, .pointer (some a)) w := by kernel_rfl
theorem nil_Encrypt (w : World) : (nilAhead 300 113 (.agg #[]) "Encrypt").run Try.prog w = .ok (some false) w := by kernel_rfl
theorem method_Encrypt (w : World) : (method 300 113 (.agg #[]) "Encrypt").run Try.prog w = .ok (126, .agg #[]) w := by kernel_rfl

set_option maxRecDepth 100000 in
theorem Encrypt_any (p base on oc m c B : Nat) (iv : Value) (OA A : Option Addr) (ob l : List UInt8) (w : World) (hp : Blk w p 77 #[iv, .slice OA on oc]) (ho : OB w base OA on oc ob) (hr : RB w B A m l) (hB : B ≤ w.heap.size) (hsz : on + m ≤ 70368744177664) (hb : base ≤ w.heap.size) :
    Calls Try.prog 126 #[.agg #[], .iface 75 (.pointer (some ⟨p, 0, none⟩)), .slice A m c] w fun e w' => e = .returned (.tuple #[.int .i64 m, .nilIface]) ∧ ∃ OA' oc' u v, OB v base OA' (on + m) oc' (ob ++ l) ∧ Below w.heap.size w u ∧ u.grownBy v (OA.map (·.block)) ∧ w' = v.setCell ⟨p, 1, none⟩ (.slice OA' (on + m) oc') := by
  have na := nil_Write ⟨p, 0, none⟩
  have ma := method_Write ⟨p, 0, none⟩
  go_enter Try.func126, Try.ntmps126
  go_wp2_with fail
  refine (Write_any p base on oc m c B iv OA A ob l _ (hp.alloc _) (ho.alloc _) (hr.alloc hB _) hsz (by rw [World.size_alloc]; omega)).mono ?_
  rintro e w2 ⟨rfl, OA', oc', v, hov, hg, _, rfl⟩
  go_wp2_with fail
  go_ret2
  exact ⟨rfl, OA', oc', _, v, hov, (Below.refl _ _).alloc (Nat.le_refl _) _, hg, rfl⟩
end Go.Proofs.Ytkpcepdalegmmaa
