/- Commands: impl.FormatCommand, laws.works. -/
import Derived.Test.YtkpcepdalegmmaaDoorCmd3
import Derived.Test.YtkpcepdalegmmaaDoorMade
namespace Go.Proofs.YtkpcepdalegmmaaDoor
open Go.RowKit

theorem FormatCommand (name : ByteArray) (body : List UInt8) (A : Option Addr) (m c : Nat) (w : World) (hn : name.size ≤ 255) (hm : m ≤ 2147483647) (hb : RB w w.heap.size A m body) :
    Calls Tryd.prog 17 #[.string name, .slice A m c] w fun e w' => ∃ A' c', e = .returned (.tuple #[.slice A' (1 + name.size + m) c', .bool true]) ∧ OB w' w.heap.size A' (1 + name.size + m) c' (cmdBytes name body) ∧ Below w.heap.size w w' := by
  have hmf : ∀ (fn : Fn) (first cap : Array Value) (w : World), (Instr.makeFunc fn first cap).run Tryd.prog w = .ok (.func fn first cap) w := fun _ _ _ _ => rfl
  go_enter Tryd.func17, Tryd.ntmps17
  go_wp2_with fail
  refine (made_any 28 _ (1 + name.size + m) (cmdBytes name body) _ (fun W => by simp [go_sem]) ?_ (by omega)).mono ?_
  · intro W hW
    have b1 := (Blk.new w 9 #[.string name]).alloc (.cells #[.slice A m c] 30)
    have b2 := Blk.new (w.alloc (.cells #[.string name] 9)) 30 #[.slice A m c]
    rw [World.size_alloc] at b2
    have hr := (hb.new (.cells #[.string name] 9)).new (.cells #[.slice A m c] 30)
    exact (FormatCommand_f _ _ name body A m c W hn hm (b1.after hW (Nat.le_refl _)) (b2.after hW (Nat.le_refl _)) (hr.after hW)).mono fun e w' ⟨A', c', he, ho, hb⟩ => ⟨A', c', he, ho.rb, hb⟩
  rintro e w' ⟨A', c', rfl, ho, hbl⟩
  go_wp2_with fail
  go_ret2
  exact ⟨A', c', rfl, ho.more (by simp; omega), below_new (below_new hbl)⟩

theorem works_any (w : World) : Calls Tryd.prog 7 #[] w fun e w' => e = .returned (.bool true) ∧ Below w.heap.size w w' := by
  go_enter Tryd.func7, Tryd.ntmps7
  go_wp2_with fail
  refine (FormatCommand ⟨#[65]⟩ [] none 0 0 w (by decide) (by omega) RB.nil_).mono ?_
  rintro e w' ⟨A', c', rfl, ho, hbl⟩
  have hsize : (⟨#[65]⟩ : ByteArray).size = 1 := rfl
  have hcmd : cmdBytes ⟨#[65]⟩ [] = [1, 65] := rfl
  rw [hsize] at ho ⊢
  rw [hcmd] at ho
  have hstr := run_strB (c := c') ho.rb
  clear hsize hcmd
  go_wp2_with fail
  go_ret
  exact ⟨rfl, hbl⟩
end Go.Proofs.YtkpcepdalegmmaaDoor
