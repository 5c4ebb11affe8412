/- Frames: impl.FormatFrames. -/
import Derived.Test.YtkpcepdalegmmaaSent
import Derived.Test.YtkpcepdalegmmaaMade
namespace Go.Proofs.Ytkpcepdalegmmaa
open Go.RowKit

set_option maxRecDepth 100000 in
theorem FormatFrames_f (pl : Nat) (A : Option Addr) (n c : Nat) (fs : List Fr) (w : World) (hp : Blk w pl 37 #[.slice A n c]) (hr : FrS w w.heap.size A n fs) (hn : n ≤ 20) (hb : ∀ f ∈ fs, f.n ≤ 1000) :
    Calls Try.prog 44 #[.pointer (some ⟨pl, 0, none⟩)] w (SentAll w (encs fs)) := by
  have hs := Lib.hid (sent A n c fs w hr hn hb)
  have c0 := hp.cell0
  clear hr hb hp
  go_enter Try.func44, Try.ntmps44
  go_wp2_with fail
  refine hs.out.mono ?_
  rintro e w' ⟨A', n', c', rfl, ho, hb⟩
  have HF := Lib.hid (⟨A', n', c', rfl, ho, hb⟩ : SentAll w (encs fs) (.returned (.tuple #[.slice A' n' c', .nilIface])) w')
  clear ho hb c0 hs
  go_wp2_with fail
  go_ret2
  exact HF.out

theorem FormatFrames (A : Option Addr) (n c : Nat) (fs : List Fr) (w : World) (hr : FrS w w.heap.size A n fs) (hn : n ≤ 20) (hb : ∀ f ∈ fs, f.n ≤ 1000) :
    Calls Try.prog 23 #[.slice A n c] w fun e w' => ∃ A' m c', e = .returned (.tuple #[.slice A' m c', .bool true]) ∧ OB w' w.heap.size A' m c' (encs fs) ∧ Below w.heap.size w w' := by
  have hmf : ∀ (fn : Fn) (first cap : Array Value) (w : World), (Instr.makeFunc fn first cap).run Try.prog w = .ok (.func fn first cap) w := fun _ _ _ _ => rfl
  have hle : (encs fs).length ≤ 1009 * 20 := Nat.le_trans (encs_le fun f hf => ⟨(hr.2 f hf).1.len, hb f hf⟩) (by have := hr.len; omega)
  obtain ⟨m, hm⟩ : ∃ m, m = (encs fs).length := ⟨_, rfl⟩
  have HM := Lib.hid hm
  rw [← hm] at hle
  clear hm
  go_enter Try.func23, Try.ntmps23
  go_wp2_with fail
  refine (made_any 44 _ m (encs fs) _ (fun W => by simp [go_sem]) ?_ (by omega)).mono ?_
  · intro W hW
    have b1 := Blk.new w 37 #[.slice A n c]
    have hb1 : Below w.heap.size w W := below_new hW
    exact (FormatFrames_f _ A n c fs W (b1.after hW (Nat.le_refl _)) (hr.after hb1) hn hb).mono fun e w' ⟨A', n', c', he, ho, hb⟩ => ⟨A', c', by rw [he, HM.out, ho.len], (by rw [HM.out]; have := ho.rb; rw [ho.len]; exact this), hb⟩
  rintro e w' ⟨A', c', rfl, ho, hbl⟩
  go_wp2_with fail
  go_ret2
  exact ⟨A', m, c', rfl, ho.more (by simp), below_new hbl⟩
end Go.Proofs.Ytkpcepdalegmmaa
