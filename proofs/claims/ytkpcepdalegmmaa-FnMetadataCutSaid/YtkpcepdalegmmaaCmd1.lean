/- Commands: the walks of spec.Name, spec.Command. -/
import Derived.Test.YtkpcepdalegmmaaBytes
namespace Go.Proofs.Ytkpcepdalegmmaa
open Go.RowKit

/-- A command's bytes: its name's length, its name, its data. -/
def cmdBytes (name : ByteArray) (body : List UInt8) : List UInt8 := (UInt8.ofNat name.size :: name.data.toList) ++ body

theorem lit1 (n : Nat) : (#[Value.int .u8 ((n : Int) % 256)]).toList = bv [UInt8.ofNat n] := by simp [bv]

theorem spec_Command (name : ByteArray) (body : List UInt8) (A : Option Addr) (m c : Nat) (w : World) (hn : name.size ≤ 2147483647) (hm : m ≤ 2147483647) (hb : RB w w.heap.size A m body) :
    Calls Try.prog 11 #[.string name, .slice A m c] w fun e w' => ∃ A' c', e = .returned (.slice A' (1 + name.size + m) c') ∧ OB w' w.heap.size A' (1 + name.size + m) c' (cmdBytes name body) ∧ Below w.heap.size w w' := by
  go_enter Try.func11, Try.ntmps11
  go_wp2_with (first
    | (at_builtin
       refine wpl_appB rfl (.tmp 8) (.tmp 9) 9 rfl w.heap.size _ 1 1 [UInt8.ofNat name.size] rfl (OB.lit w _ (Nat.le_refl _) _ _ (lit1 _) 1 rfl (by decide)) _ _ _ rfl (srcS name) (1 + name.size) rfl (by omega) (by simp) ?_
       intro A1 c1 w1 ho1 hg1 ha1
       have hb1 : Below w.heap.size w w1 := ((Below.refl _ w).alloc (Nat.le_refl _) _).grown hg1 (by simp) (fun k hk => by simp at hk; omega))
    | (at_builtin
       refine wpl_appB rfl (.tmp 10) (.tmp 11) 22 rfl w.heap.size _ (1 + name.size) c1 _ rfl ho1 _ _ _ rfl (srcB (hb.below hb1)) (1 + name.size + m) rfl (by omega) hb1.size ?_
       intro A2 c2 w2 ho2 hg2 ha2
       have hb2 : Below w.heap.size w w2 := hb1.grown hg2 hb1.size (fun k hk => ho1.base_le hk)))
  go_ret
  exact ⟨A2, c2, rfl, ho2, hb2⟩
end Go.Proofs.Ytkpcepdalegmmaa
