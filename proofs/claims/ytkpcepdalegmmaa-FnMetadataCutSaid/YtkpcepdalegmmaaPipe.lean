/- The pipe: (*ZZPipe).Read, (*ZZPipe).Write. -/
import Derived.Test.YtkpcepdalegmmaaArr
namespace Go.Proofs.Ytkpcepdalegmmaa
open Go.RowKit

def eofS : ByteArray := ⟨#[69, 79, 70]⟩
def endS : ByteArray := ⟨#[117, 110, 101, 120, 112, 101, 99, 116, 101, 100, 32, 69, 79, 70]⟩

theorem Read_none (g : Nat) (IA : Option Addr) (c : Nat) (out b : Value) (w : World) (hg : Blk w g 77 #[.slice IA 0 c, out]) :
    Calls Try.prog 118 #[.pointer (some ⟨g, 0, none⟩), b] w fun e w' => e = .returned (.tuple #[.int .i64 0, .iface 110 (.string eofS)]) ∧ w = w' := by
  have c0 := hg.cell 0
  simp only [List.getElem?_toArray, List.getElem?_cons_zero] at c0
  go_enter Try.func118, Try.ntmps118
  go_wp2_with fail
  go_ret2
  exact ⟨rfl, rfl⟩

set_option maxRecDepth 100000 in
theorem Read_some (g d off : Nat) (T : TypeId) (IA : Option Addr) (n c m cap k : Nat) (out : Value) (l inb : List UInt8) (w : World) (hg : Blk w g 77 #[.slice IA n c, out]) (hd : BB w d T l)
    (hr : RB w w.heap.size IA n inb) (hn : 0 < n) (hk : Nat.min n m = k) (hfit : off + m ≤ l.length) (hgd : g ≠ d) :
    Calls Try.prog 118 #[.pointer (some ⟨g, 0, none⟩), .slice (some ⟨d, off, none⟩) m cap] w fun e w' => e = .returned (.tuple #[.int .i64 k, .nilIface]) ∧ BB w' d T (splice l off (inb.take k)) ∧
      Blk w' g 77 #[.slice (cutA IA c k) (n - k) (c - k), out] ∧ Apart [d, g] w w' ∧ w'.heap.size = w.heap.size := by
  have hkn : k ≤ n := by rw [← hk]; exact Nat.min_le_left _ _
  have hkm : k ≤ m := by rw [← hk]; exact Nat.min_le_right _ _
  have hK := Lib.hid hk
  clear hk
  have hs : ∀ W, (Instr.slice 22 (.slice IA n c) (some (.int .i64 (k : Int))) none none).run Try.prog W = .ok (.slice (cutA IA c k) (n - k) (c - k)) W := fun W => run_slice_lo IA n c W k hkn
  have hl : inb.length = n := hr.len
  have hL := Lib.hid hl
  clear hl
  have c0 := hg.cell 0
  have c1 := hg.cell 1
  simp only [List.getElem?_toArray, List.getElem?_cons_zero, List.getElem?_cons_succ] at c0 c1
  have e0 : ((n : Int) == 0) = false := by rw [beq_eq_false_iff_ne]; omega
  have hgl := hg.lt
  generalize hA : cutA IA c k = A2 at hs ⊢
  clear hA
  go_enter Try.func118, Try.ntmps118
  go_wp2_with (first
    | (with_reducible refine wpl_copyB (o := ⟨some 19, _, _, _, _, _⟩) rfl (.tmp 14) (.tmp 18) 22 rfl d off m cap T (.slice IA n c) n l (inb.take k) k ?_ ?_ hd (lenOf_slice _ _ _) hK.out (first_slice hr c hkn) ?_ ?_ ?_
       · rfl
       · rfl
       · simp; rw [hL.out]; omega
       · omega
       intro w2 hd2 ha2 hs2
       have d0 := (ha2.cell (p := ⟨g, 0, none⟩) hgl (by simpa using hgd)).trans c0
       have d1 := (ha2.cell (p := ⟨g, 1, none⟩) hgl (by simpa using hgd)).trans c1
       have f0 := (ha2.blk hg (by simpa using hgd)).frozen 0
       have hg2 := ha2.blk hg (by simpa using hgd)
       have hs2' := Lib.hid hs2
       clear hs2 c0 c1))
  go_ret2
  have hgd' : d ≠ g := Ne.symm hgd
  refine ⟨rfl, hd2.farN hgd' _, hg2.set_ 0 _, (ha2.mono (fun k _ hk => by simp at hk; simp [hk])).setN (.inl (by simp)) _, ?_⟩
  rw [World.size_setCell]
  exact hs2'.out
end Go.Proofs.Ytkpcepdalegmmaa
