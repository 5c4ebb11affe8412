/- impl.made over a closure that succeeds: a copy of its bytes, true. -/
import Derived.Test.YtkpcepdalegmmaaDoorBytes3
import Derived.Test.YtkpcepdalegmmaaDoorQuiet
namespace Go.Proofs.YtkpcepdalegmmaaDoor
open Go.RowKit

/-- What a closure handed to 'made' comes to: bytes, no error. -/
def Makes (W : World) (n : Nat) (l : List UInt8) (e : Ending) (w' : World) : Prop :=
  ∃ A c, e = .returned (.tuple #[.slice A n c, .nilIface]) ∧ RB w' w'.heap.size A n l ∧ Below W.heap.size W w'

theorem made_f (k : FuncId) (caps : Array Value) (pf po pk : Nat) (n : Nat) (l : List UInt8) (w : World) (hin : ∀ W : World, (callFunc k caps).run Tryd.prog W = .ok (.enter k caps) W)
    (h : Calls Tryd.prog k caps w (Makes w n l)) (hn : n ≤ 1099511627776)
    (hf : Blk w pf 55 #[.func (.func k) #[] caps]) (ho : Blk w po 30 #[.slice none 0 0]) (hk : Blk w pk 4 #[.bool false]) :
    Calls Tryd.prog 35 #[.pointer (some ⟨pf, 0, none⟩), .pointer (some ⟨po, 0, none⟩), .pointer (some ⟨pk, 0, none⟩)] w fun e w' => e = .returned (.tuple #[]) ∧ ∃ A c w1, OB w1 w.heap.size A n c l ∧ Below w.heap.size w w1 ∧
      w' = (w1.setCell ⟨po, 0, none⟩ (.slice A n c)).setCell ⟨pk, 0, none⟩ (.bool true) := by
  have cf := hf.cell0
  go_enter Tryd.func35, Tryd.ntmps35
  go_wp2_with fail
  refine h.mono ?_
  rintro e w1 ⟨A, c, rfl, ho1, hb1⟩
  clear cf
  have co := (ho.after hb1 (Nat.le_refl _)).cell0
  have ck := (hk.after hb1 (Nat.le_refl _)).cell0
  go_wp2_with fail
  have hne : ¬ po = pk := (ho.ne_ hk (by decide))
  have hne' : ¬ pk = po := fun e => hne e.symm
  have ho' := ho.after hb1 (Nat.le_refl _)
  have hk' := hk.after hb1 (Nat.le_refl _)
  clear co ck
  go_region_held3 (fun _ => True) (trivial)
    (first
      | (with_reducible refine st_at 12 ?_
         refine st_appB rfl (.tmp 10) (.tmp 11) 30 rfl w1.heap.size _ 0 0 [] rfl (OB.lit0 _ _ (Nat.le_refl _)) _ _ _ rfl (srcB (ho1.new _)) n (Nat.zero_add n) (by omega) (by simp) ?_
         intro A2 c2 w2 ho2 hg2 ha2
         have hb2 : Below w1.heap.size w1 w2 := ((Below.refl _ _).drew.alloc (Nat.le_refl _) _).grown hg2 (by simp) (fun k hk => by cases hk; exact Nat.le_refl _)
         have ko2 := (ho'.after hb2 (Nat.le_refl _)).cell0
         have fo2 := (ho'.after hb2 (Nat.le_refl _)).frozen 0
         have kk2 := (hk'.after hb2 (Nat.le_refl _)).cell0
         have fk2 := (hk'.after hb2 (Nat.le_refl _)).frozen 0))
  go_wp2_with fail
  go_end0
  exact ⟨rfl, A2, c2, w2, ho2.more hb1.size, below_seq hb1 hb2 hb1.size, rfl⟩

theorem made_any (k : FuncId) (caps : Array Value) (n : Nat) (l : List UInt8) (w : World) (hin : ∀ W : World, (callFunc k caps).run Tryd.prog W = .ok (.enter k caps) W)
    (h : ∀ W : World, Below w.heap.size w W → Calls Tryd.prog k caps W (Makes W n l)) (hn : n ≤ 1099511627776) :
    Calls Tryd.prog 25 #[.func (.func k) #[] caps] w fun e w' => ∃ A c, e = .returned (.tuple #[.slice A n c, .bool true]) ∧ OB w' w.heap.size A n c l ∧ Below w.heap.size w w' := by
  have hmf : ∀ (fn : Fn) (first cap : Array Value) (w : World), (Instr.makeFunc fn first cap).run Tryd.prog w = .ok (.func fn first cap) w := fun _ _ _ _ => rfl
  have hin' : ∀ (caps : Array Value) (W : World), (callFunc 35 caps).run Tryd.prog W = .ok (.enter 35 caps) W := fun _ _ => by simp [go_sem]
  go_enter Tryd.func25, Tryd.ntmps25
  go_wp2_with fail
  refine (quietly_any 35 _ _ (fun b w' => b = true ∧ ∃ A c, OB w' (w.heap.size + 4) A n c l ∧ Blk w' (w.heap.size + 1) 30 #[.slice A n c] ∧ Blk w' (w.heap.size + 1 + 1) 4 #[.bool true] ∧ Below w.heap.size w w') (hin' _) ?_).mono ?_
  · have b1 := Blk.new w 55 #[.func (.func k) #[] caps]
    have b2 := Blk.new (w.alloc (.cells #[.func (.func k) #[] caps] 55)) 30 #[.slice none 0 0]
    have b3 := Blk.new ((w.alloc (.cells #[.func (.func k) #[] caps] 55)).alloc (.cells #[.slice none 0 0] 30)) 4 #[.bool false]
    have b4 := Blk.new (((w.alloc (.cells #[.func (.func k) #[] caps] 55)).alloc (.cells #[.slice none 0 0] 30)).alloc (.cells #[.bool false] 4)) 4 #[.bool false]
    have hb4 : Below w.heap.size w ((((w.alloc (.cells #[.func (.func k) #[] caps] 55)).alloc (.cells #[.slice none 0 0] 30)).alloc (.cells #[.bool false] 4)).alloc (.cells #[.bool false] 4)) :=
      ((((Below.refl _ w).alloc (Nat.le_refl _) _).alloc (by simp) _).alloc (by simp; omega) _).alloc (by simp; omega) _
    have b1' := ((b1.alloc (.cells #[.slice none 0 0] 30)).alloc (.cells #[.bool false] 4)).alloc (.cells #[.bool false] 4)
    have b2' := (b2.alloc (.cells #[.bool false] 4)).alloc (.cells #[.bool false] 4)
    have b3' := b3.alloc (.cells #[.bool false] 4)
    have e4 : ((((w.alloc (.cells #[.func (.func k) #[] caps] 55)).alloc (.cells #[.slice none 0 0] 30)).alloc (.cells #[.bool false] 4)).alloc (.cells #[.bool false] 4)).heap.size = w.heap.size + 4 := by simp
    generalize ((((w.alloc (.cells #[.func (.func k) #[] caps] 55)).alloc (.cells #[.slice none 0 0] 30)).alloc (.cells #[.bool false] 4)).alloc (.cells #[.bool false] 4)) = W4 at *
    simp only [World.size_alloc] at *
    refine (made_f k caps w.heap.size (w.heap.size + 1) (w.heap.size + 1 + 1) n l W4 hin (h W4 hb4) hn b1' b2' b3').mono ?_
    rintro e w' ⟨rfl, A, c, w1, ho, hbw, rfl⟩
    rw [e4] at ho hbw
    have q1 := b2'.below hbw (by omega)
    have q2 := b3'.below hbw (by omega)
    have q3 := b4.below hbw (by omega)
    have n1 := ((q1.setN (.slice A n c)).farN (b := w.heap.size + 1 + 1) (o := 0) (by omega) (.bool true))
    have n2 := ((q2.farN (b := w.heap.size + 1) (o := 0) (by omega) (.slice A n c)).setN (.bool true))
    have n3 := ((q3.farN (b := w.heap.size + 1) (o := 0) (by omega) (.slice A n c)).farN (b := w.heap.size + 1 + 1) (o := 0) (by omega) (.bool true))
    refine ⟨n3.cell0, n3.frozen 0, .inl ⟨rfl, rfl, A, c, ?_, n1, n2, ?_⟩⟩
    · exact (ho.setN (by omega) _).setN (by omega) _
    · exact below_setN (below_setN (hb4.trans (hbw.mono (by omega))) (by omega) _) (by omega) _
  rintro e w' ⟨b, w1, rfl, ⟨rfl, A, c, ho, q1, q2, hb⟩, rfl⟩
  simp only [World.size_alloc]
  have n1 := q1.farN (b := w.heap.size + 1 + 1 + 1) (o := 0) (by omega) (.bool true)
  have n2 := q2.farN (b := w.heap.size + 1 + 1 + 1) (o := 0) (by omega) (.bool true)
  have ho2 : OB (w1.setCell ⟨w.heap.size + 1 + 1 + 1, 0, none⟩ (.bool true)) (w.heap.size + 4) A n c l := ho.setN (by omega) _
  have hb2 := below_setN (b := w.heap.size + 1 + 1 + 1) (o := 0) hb (by omega) (.bool true)
  generalize w1.setCell ⟨w.heap.size + 1 + 1 + 1, 0, none⟩ (.bool true) = W at *
  clear q1 q2 ho hb h hin' hmf hin
  have c1 := n1.cell0
  have c2 := n2.cell0
  have f1 := n1.frozen 0
  have f2 := n2.frozen 0
  go_wp2_with fail
  have k1 := ((n1.setN (.slice A n c)).farN (b := w.heap.size + 1 + 1) (o := 0) (by omega) (.bool true)).cell0
  have k2 := ((n2.farN (b := w.heap.size + 1) (o := 0) (by omega) (.slice A n c)).setN (.bool true)).cell0
  refine bodyPost_ret (v := .tuple #[.slice A n c, .bool true]) (by simp [results, Tryd.results25, go_sem, k1, k2]) rfl ⟨A, c, rfl, ?_, ?_⟩
  · exact ((ho2.setN (by omega) _).setN (by omega) _).more (by omega)
  · exact below_setN (below_setN hb2 (by omega) _) (by omega) _
end Go.Proofs.YtkpcepdalegmmaaDoor
