/- Commands: the walks of ZZCommand, impl.FormatCommand, laws.works. -/
import Derived.Test.YtkpcepdalegmmaaDoorCmd2
import Derived.Test.YtkpcepdalegmmaaDoorQuiet
import Derived.Test.YtkpcepdalegmmaaDoorBytes3
namespace Go.Proofs.YtkpcepdalegmmaaDoor
open Go.RowKit

theorem ZZCommand (name : ByteArray) (body : List UInt8) (A : Option Addr) (m c : Nat) (w : World) (hn : name.size ≤ 255) (hm : m ≤ 2147483647) (hb : RB w w.heap.size A m body) :
    Calls Tryd.prog 29 #[.string name, .slice A m c] w fun e w' => ∃ A' c', e = .returned (.tuple #[.slice A' (1 + name.size + m) c', .nilIface]) ∧ OB w' w.heap.size A' (1 + name.size + m) c' (cmdBytes name body) ∧ Below w.heap.size w w' := by
  go_enter Tryd.func29, Tryd.ntmps29
  go_wp2_with fail
  refine (marshalZMTP _ name body A m c _ hn hm (Blk.new _ _ _) (hb.new _)).mono ?_
  rintro e w' ⟨A', c', rfl, ho, hbl⟩
  go_wp2_with fail
  go_ret2
  exact ⟨A', c', rfl, ho.more (by simp), below_new hbl⟩

/-- The closure of FormatCommand. -/
theorem FormatCommand_f (pn pb : Nat) (name : ByteArray) (body : List UInt8) (A : Option Addr) (m c : Nat) (w : World) (hn : name.size ≤ 255) (hm : m ≤ 2147483647)
    (hpn : Blk w pn 9 #[.string name]) (hpb : Blk w pb 30 #[.slice A m c]) (hb : RB w w.heap.size A m body) :
    Calls Tryd.prog 28 #[.pointer (some ⟨pn, 0, none⟩), .pointer (some ⟨pb, 0, none⟩)] w fun e w' => ∃ A' c', e = .returned (.tuple #[.slice A' (1 + name.size + m) c', .nilIface]) ∧ OB w' w.heap.size A' (1 + name.size + m) c' (cmdBytes name body) ∧ Below w.heap.size w w' := by
  have c0 := hpn.cell0
  have c1 := hpb.cell0
  have S_of : ∀ W, Below w.heap.size w W → W.cell? ⟨pn, 0, none⟩ = some (.string name) ∧ W.cell? ⟨pb, 0, none⟩ = some (.slice A m c) ∧ Below w.heap.size w W :=
    fun W hW => ⟨(hW.cell (p := ⟨pn, 0, none⟩) hpn.lt).trans c0, (hW.cell (p := ⟨pb, 0, none⟩) hpb.lt).trans c1, hW⟩
  go_enter Tryd.func28, Tryd.ntmps28
  go_wp2_with fail
  go_region_held3 (fun w' => w'.cell? ⟨pn, 0, none⟩ = some (.string name) ∧ w'.cell? ⟨pb, 0, none⟩ = some (.slice A m c) ∧ Below w.heap.size w w')
    ((first | exact S_of _ (Below.refl _ _).drew | exact S_of _ ((Below.refl _ _).drew.alloc (Nat.le_refl _) _) | exact S_of _ (by assumption)))
    (first
      | (go_at_call 29
         refine (ZZCommand name body _ _ _ _ hn hm ho1.rb).mono ?_
         rintro e w2 ⟨A2, c2, rfl, ho2, hb2⟩
         have hb3 := below_seq hb1 hb2 hb1.size)
      | (with_reducible refine st_at 7 ?_
         refine st_appB rfl (.tmp 5) (.tmp 6) 30 rfl w.heap.size _ 0 0 [] rfl (OB.lit0 _ _ (Nat.le_refl _)) _ _ _ rfl (srcB (hb.below ?_)) m (Nat.zero_add m) (by omega) (by simp) ?_
         exact ((Below.refl _ _).drew.alloc (Nat.le_refl _) _)
         intro A1 c1' w1 ho1 hg1 ha1
         have hb1 : Below w.heap.size w w1 := ((Below.refl _ _).drew.alloc (Nat.le_refl _) _).grown hg1 (by simp) (fun k hk => by cases hk; exact Nat.le_refl _)))
  go_wp2_with fail
  go_ret2
  exact ⟨A2, c2, rfl, ho2.more hb1.size, hb3⟩
end Go.Proofs.YtkpcepdalegmmaaDoor
