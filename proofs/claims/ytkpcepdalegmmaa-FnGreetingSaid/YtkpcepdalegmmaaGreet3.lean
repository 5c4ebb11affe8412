/- Greetings: impl.FormatGreeting. -/
import Derived.Test.YtkpcepdalegmmaaGreet2
namespace Go.Proofs.Ytkpcepdalegmmaa
open Go.RowKit

theorem FormatGreeting_f (p0 p1 p2 p3 : Nat) (M m : UInt8) (mech : ByteArray) (server : Bool) (w : World) (hm : mech.size ≤ 20)
    (h0 : Blk w p0 3 #[.int .i64 M.toNat]) (h1 : Blk w p1 3 #[.int .i64 m.toNat]) (h2 : Blk w p2 9 #[.string mech]) (h3 : Blk w p3 4 #[.bool server]) :
    Calls Try.prog 37 #[.pointer (some ⟨p0, 0, none⟩), .pointer (some ⟨p1, 0, none⟩), .pointer (some ⟨p2, 0, none⟩), .pointer (some ⟨p3, 0, none⟩)] w (Makes w 64 (greetM M m (padTo mech.data.toList) (boolB server))) := by
  have c0 := h0.cell0
  have c1 := h1.cell0
  have c2 := h2.cell0
  have c3 := h3.cell0
  have b1 : M.toNat < 256 := M.toNat_lt
  have b2 : m.toNat < 256 := m.toNat_lt
  go_enter Try.func37, Try.ntmps37
  go_wp2_with fail
  refine (ZZGreeting M m mech server w hm).mono ?_
  rintro e w' ⟨b, rfl, hb, hbb, hbl⟩
  clear c0 c1 c2 c3
  go_wp2_with fail
  go_ret2
  refine ⟨_, 64, rfl, ?_, hbl⟩
  have hml : (padTo mech.data.toList).length = 20 := padTo_length (by simpa using hm)
  have hr := hbb.rb (o := 0) (n := 64) (by rw [greetM_length hml]; decide)
  rw [List.drop_zero, List.take_of_length_le (by rw [greetM_length hml]; decide)] at hr
  exact hr

set_option maxRecDepth 100000 in
theorem FormatGreeting (M m : UInt8) (mech : ByteArray) (server : Bool) (w : World) (hm : mech.size ≤ 20) :
    Calls Try.prog 17 #[.int .i64 M.toNat, .int .i64 m.toNat, .string mech, .bool server] w fun e w' =>
      ∃ A c, e = .returned (.tuple #[.slice A 64 c, .bool true]) ∧ OB w' w.heap.size A 64 c (greetM M m (padTo mech.data.toList) (boolB server)) ∧ Below w.heap.size w w' := by
  have hmf : ∀ (fn : Fn) (first cap : Array Value) (w : World), (Instr.makeFunc fn first cap).run Try.prog w = .ok (.func fn first cap) w := fun _ _ _ _ => rfl
  have b1 : M.toNat < 256 := M.toNat_lt
  have b2 : m.toNat < 256 := m.toNat_lt
  go_enter Try.func17, Try.ntmps17
  go_wp2_with fail
  refine (made_any 37 _ 64 (greetM M m (padTo mech.data.toList) (boolB server)) _ (fun W => by simp [go_sem]) ?_ (by omega)).mono ?_
  · intro W hW
    have q0 := ((Blk.new w 3 #[.int .i64 M.toNat]).alloc (.cells #[.int .i64 m.toNat] 3)).alloc (.cells #[.string mech] 9) |>.alloc (.cells #[.bool server] 4)
    have q1 := ((Blk.new (w.alloc (.cells #[.int .i64 M.toNat] 3)) 3 #[.int .i64 m.toNat]).alloc (.cells #[.string mech] 9)).alloc (.cells #[.bool server] 4)
    have q2 := (Blk.new ((w.alloc (.cells #[.int .i64 M.toNat] 3)).alloc (.cells #[.int .i64 m.toNat] 3)) 9 #[.string mech]).alloc (.cells #[.bool server] 4)
    have q3 := Blk.new (((w.alloc (.cells #[.int .i64 M.toNat] 3)).alloc (.cells #[.int .i64 m.toNat] 3)).alloc (.cells #[.string mech] 9)) 4 #[.bool server]
    simp only [World.size_alloc] at q0 q1 q2 q3
    exact FormatGreeting_f _ _ _ _ M m mech server W hm (q0.after hW (Nat.le_refl _)) (q1.after hW (Nat.le_refl _)) (q2.after hW (Nat.le_refl _)) (q3.after hW (Nat.le_refl _))
  rintro e w' ⟨A, c, rfl, ho, hbl⟩
  go_wp2_with fail
  go_ret2
  exact ⟨A, c, rfl, ho.more (by simp; omega), below_new (below_new (below_new (below_new hbl)))⟩
end Go.Proofs.Ytkpcepdalegmmaa
