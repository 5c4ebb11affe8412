/- Commands: the walks of (*Cmd).marshalZMTP, ZZCommand. -/
import Derived.Test.YtkpcepdalegmmaaDoorBytes2
import Derived.Test.YtkpcepdalegmmaaDoorCmd1
namespace Go.Proofs.YtkpcepdalegmmaaDoor
open Go.RowKit

theorem lit1' {n : Nat} (h : n ≤ 255) : (#[Value.int .u8 (n : Int)]).toList = bv [UInt8.ofNat n] := by
  rw [← lit1, Int.emod_eq_of_lt (by omega) (by omega)]

set_option maxHeartbeats 400000 in
theorem marshalZMTP (g : Nat) (name : ByteArray) (body : List UInt8) (A : Option Addr) (m c : Nat) (w : World) (hn : name.size ≤ 255) (hm : m ≤ 2147483647)
    (hg : Blk w g 76 #[.string name, .slice A m c]) (hb : RB w w.heap.size A m body) :
    Calls Tryd.prog 40 #[.pointer (some ⟨g, 0, none⟩)] w fun e w' => ∃ A' c', e = .returned (.tuple #[.slice A' (1 + name.size + m) c', .nilIface]) ∧ OB w' w.heap.size A' (1 + name.size + m) c' (cmdBytes name body) ∧ Below w.heap.size w w' := by
  have c0 := hg.cell 0
  have c1 := hg.cell 1
  have hgl := hg.lt
  simp only [List.getElem?_toArray, List.getElem?_cons_zero, List.getElem?_cons_succ] at c0 c1
  go_enter Tryd.func40, Tryd.ntmps40
  go_wp2_with (first
    | (at_make
       refine wpl_make0 rfl _ _ rfl w.heap.size _ (1 + name.size + m) rfl rfl (by omega) (by omega) (Nat.le_refl _) ?_
       intro w1 ho1 hg1
       have hb1 : Below w.heap.size w w1 := below_of_grownBy hg1
       have d0 := (bcell hb1).1 g 0 hgl
       have d1 := (bcell hb1).1 g 1 hgl
       rw [c0] at d0
       rw [c1] at d1)
    | (at_builtin
       refine wpl_appB rfl (.tmp 23) (.tmp 26) 30 rfl w.heap.size _ 0 _ [] rfl (ho1.alloc _) _ 1 [UInt8.ofNat name.size] rfl ?s1 1 rfl (by omega) ?s2 ?_
       case s1 => exact srcB (OB.lit w1 _ (Nat.le_refl _) _ _ (lit1' hn) 1 rfl (by decide)).rb
       case s2 => have := hb1.size; simp; omega
       intro A2 c2 w2 ho2 hg2 ha2
       have hb2 : Below w.heap.size w w2 := (hb1.alloc hb1.size _).grown hg2 (by have := hb1.size; simp; omega) (fun k hk => ho1.base_le hk)
       have f0 := (bcell hb2).1 g 0 hgl
       have f1 := (bcell hb2).1 g 1 hgl
       rw [c0] at f0
       rw [c1] at f1)
    | (with_reducible refine wpl_ofStr (o := ⟨some 33, _, _, _, _, _⟩) rfl (.tmp 32) rfl name rfl ?_
       intro c3 w3 hr3 hg3 hl3 hs3
       have ho3 := ho2.kept hg3 (fun ad _ => by simp)
       have hb3 : Below w.heap.size w w3 := hb2.grown hg3 hb2.size (fun k hk => by cases hk)
       have i0 := (bcell hb3).1 g 0 hgl
       have i1 := (bcell hb3).1 g 1 hgl
       rw [c0] at i0
       rw [c1] at i1)
    | (at_builtin
       refine wpl_appB rfl (.tmp 28) (.tmp 33) 30 rfl w.heap.size _ 1 _ _ rfl ho3 _ _ _ rfl (srcB hr3) (1 + name.size) rfl (by omega) hb3.size ?_
       intro A4 c4 w4 ho4 hg4 ha4
       have hb4 : Below w.heap.size w w4 := hb3.grown hg4 hb3.size (fun k hk => ho3.base_le hk)
       have j0 := (bcell hb4).1 g 0 hgl
       have j1 := (bcell hb4).1 g 1 hgl
       rw [c0] at j0
       rw [c1] at j1)
    | (at_builtin
       refine wpl_appB rfl (.tmp 35) (.tmp 39) 30 rfl w.heap.size _ (1 + name.size) _ _ rfl ho4 _ _ _ rfl (srcB (hb.below hb4)) (1 + name.size + m) rfl (by omega) hb4.size ?_
       intro A5 c5 w5 ho5 hg5 ha5
       have hb5 : Below w.heap.size w w5 := hb4.grown hg5 hb4.size (fun k hk => ho4.base_le hk)))
  go_ret2
  exact ⟨A5, c5, rfl, ho5, hb5⟩
end Go.Proofs.YtkpcepdalegmmaaDoor
