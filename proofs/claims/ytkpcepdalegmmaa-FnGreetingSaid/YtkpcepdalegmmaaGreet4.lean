/- Greetings: spec.Greeting. -/
import Derived.Test.YtkpcepdalegmmaaGreet1
import Derived.Test.YtkpcepdalegmmaaCmd1
namespace Go.Proofs.Ytkpcepdalegmmaa
open Go.RowKit

/-- A slice's length, for a loop's measure. -/
def lenV : Value → Nat | .slice _ n _ => n | _ => 0
def zeros (n : Nat) : List UInt8 := List.replicate n 0
theorem zeros_snoc (n : Nat) : zeros n ++ [0] = zeros (n + 1) := by simp [zeros, List.replicate_succ']
theorem lit0 : (#[Value.int .u8 0]).toList = bv [0] := rfl
theorem litOne : (#[Value.int .u8 1]).toList = bv [1] := rfl
theorem litPre (a b : UInt8) : (#[Value.int .u8 255, .int .u8 0, .int .u8 0, .int .u8 0, .int .u8 0, .int .u8 0, .int .u8 0, .int .u8 0, .int .u8 0, .int .u8 127, .int .u8 (a.toNat : Int), .int .u8 (b.toNat : Int)]).toList = bv (preB a b) := rfl
theorem greet_first {a b : UInt8} {m : List UInt8} {k n : Nat} (hm : m.length = n) (hn : n ≤ 20) (hk : 12 + n + k = 32) : preB a b ++ m ++ zeros k = preB a b ++ padTo m := by
  unfold padTo zeros
  rw [List.append_assoc, show 20 - m.length = k from by omega]

theorem greet_list (a b s : UInt8) (m : List UInt8) : preB a b ++ m ++ [s] ++ zeros 31 = greetM a b m s := by
  unfold greetM zeros
  simp [List.append_assoc]
theorem greet_done {w : World} {base c : Nat} {A : Option Addr} {a b s : UInt8} {m : List UInt8} (h : OB w base A 64 c (preB a b ++ m ++ [s] ++ zeros 31)) : OB w base A 64 c (greetM a b m s) := by
  rw [greet_list] at h
  exact h

set_option maxRecDepth 100000 in
set_option maxHeartbeats 800000 in
theorem spec_Greeting (M m : UInt8) (mech : ByteArray) (server : Bool) (w : World) (hm : mech.size ≤ 20) :
    Calls Try.prog 15 #[.int .i64 M.toNat, .int .i64 m.toNat, .string mech, .bool server] w fun e w' =>
      ∃ A c, e = .returned (.slice A 64 c) ∧ OB w' w.heap.size A 64 c (greetM M m (padTo mech.data.toList) (boolB server)) ∧ Below w.heap.size w w' := by
  have b1 : M.toNat < 256 := M.toNat_lt
  have b2 : m.toNat < 256 := m.toNat_lt
  have hml : mech.data.toList.length = mech.size := by simp
  have hml' := Lib.hid hml
  clear hml
  go_enter Try.func15, Try.ntmps15
  go_wp2_with (first
    | (at_builtin
       refine wpl_appB rfl (.tmp 15) (.tmp 16) 9 rfl w.heap.size _ 12 12 (preB M m) rfl (OB.lit w _ (Nat.le_refl _) _ _ (litPre M m) 12 rfl (by decide)) _ _ _ rfl (srcS mech) (12 + mech.size) rfl (by omega) (by simp) ?_
       intro A1 c1 w1 ho1 hg1 ha1
       have hb1 : Below w.heap.size w w1 := ((Below.refl _ w).alloc (Nat.le_refl _) _).grown hg1 (by simp) (fun k hk => by simp at hk; omega)))
  go_loopw [9] (fun v wr => ∃ (A : Option Addr) (c k : Nat), v = .slice A (12 + mech.size + k) c ∧ OB wr w.heap.size A (12 + mech.size + k) c (preB M m ++ mech.data.toList ++ zeros k) ∧ 12 + mech.size + k ≤ 32 ∧ Below w.heap.size w wr)
    (fun v _ => 32 - lenV v)
  case atStart => exact ⟨A1, c1, 0, rfl, by simpa [zeros] using ho1, by omega, hb1⟩
  case round =>
    obtain ⟨A, c, k, rfl, ho, hk, hb⟩ := hrel
    by_cases hlt : 12 + mech.size + k < 32
    · go_wp2_with (first
        | (at_builtin
           refine wpl_appB rfl (.tmp 21) (.tmp 22) 22 rfl w.heap.size _ (12 + mech.size + k) _ _ rfl (ho.alloc _) _ 1 [0] rfl (srcB (OB.lit wr _ (Nat.le_refl _) _ _ lit0 1 rfl (by decide)).rb) (12 + mech.size + k + 1) rfl (by omega) (by have := hb.size; simp; omega) ?_
           intro A2 c2 w2 ho2 hg2 ha2
           have hb2 : Below w.heap.size w w2 := (hb.alloc hb.size _).grown hg2 (by have := hb.size; simp; omega) (fun k hk => ho.base_le hk)))
      go_roundw
      case rel => exact ⟨A2, c2, k + 1, rfl, by rw [List.append_assoc, zeros_snoc] at ho2; exact ho2, by omega, hb2⟩
      case measure => simp [lenV]; omega
    · obtain ⟨n, hn⟩ : ∃ n, n = 12 + mech.size + k := ⟨_, rfl⟩
      have e32 : 12 + mech.size + k = 32 := by omega
      rw [greet_first hml'.out hm e32] at ho
      rw [e32] at ho ⊢
      clear e32 hn n
      cases server
      · go_wp2_with (first
          | (at_builtin
             refine wpl_appB rfl (.tmp 28) (.tmp 29) 22 rfl w.heap.size _ 32 _ _ rfl (ho.alloc _) _ 1 [0] rfl (srcB (OB.lit wr _ (Nat.le_refl _) _ _ lit0 1 rfl (by decide)).rb) 33 rfl (by omega) (by have := hb.size; simp; omega) ?_
             intro A2 c2 w2 ho2 hg2 ha2
             have hb2 : Below w.heap.size w w2 := (hb.alloc hb.size _).grown hg2 (by have := hb.size; simp; omega) (fun k hk => ho.base_le hk)))
        clear hg2 ha2 hg1 ha1 ho1 hb1
        obtain ⟨wo, rfl⟩ : ∃ wo : World, wo = wr := ⟨_, rfl⟩
        go_loopw [9] (fun v wr => ∃ (A : Option Addr) (c k : Nat), v = .slice A (33 + k) c ∧ OB wr w.heap.size A (33 + k) c (preB M m ++ padTo mech.data.toList ++ [0] ++ zeros k) ∧ 33 + k ≤ 64 ∧ Below w.heap.size w wr)
          (fun v _ => 64 - lenV v)
        case atStart => exact ⟨A2, c2, 0, rfl, by simpa [zeros] using ho2, by omega, hb2⟩
        case round =>
          obtain ⟨A, c, k, rfl, ho, hk, hb⟩ := hrel
          by_cases hlt : 33 + k < 64
          · go_wp2_with (first
              | (at_builtin
                 refine wpl_appB rfl (.tmp 34) (.tmp 35) 22 rfl w.heap.size _ (33 + k) _ _ rfl (ho.alloc _) _ 1 [0] rfl (srcB (OB.lit wr _ (Nat.le_refl _) _ _ lit0 1 rfl (by decide)).rb) (33 + k + 1) rfl (by omega) (by have := hb.size; simp; omega) ?_
                 intro A3 c3 w3 ho3 hg3 ha3
                 have hb3 : Below w.heap.size w w3 := (hb.alloc hb.size _).grown hg3 (by have := hb.size; simp; omega) (fun k hk => ho.base_le hk)))
            go_roundw
            case rel => exact ⟨A3, c3, k + 1, rfl, by rw [List.append_assoc, zeros_snoc] at ho3; exact ho3, by omega, hb3⟩
            case measure => simp [lenV]; omega
          · obtain rfl : k = 31 := by omega
            go_wp2_with fail
            go_ret
            exact ⟨A, c, rfl, greet_done ho, hb⟩
      · go_wp2_with (first
          | (at_builtin
             refine wpl_appB rfl (.tmp 25) (.tmp 26) 22 rfl w.heap.size _ 32 _ _ rfl (ho.alloc _) _ 1 [1] rfl (srcB (OB.lit wr _ (Nat.le_refl _) _ _ litOne 1 rfl (by decide)).rb) 33 rfl (by omega) (by have := hb.size; simp; omega) ?_
             intro A2 c2 w2 ho2 hg2 ha2
             have hb2 : Below w.heap.size w w2 := (hb.alloc hb.size _).grown hg2 (by have := hb.size; simp; omega) (fun k hk => ho.base_le hk)))
        clear hg2 ha2 hg1 ha1 ho1 hb1
        obtain ⟨wo, rfl⟩ : ∃ wo : World, wo = wr := ⟨_, rfl⟩
        go_loopw [9] (fun v wr => ∃ (A : Option Addr) (c k : Nat), v = .slice A (33 + k) c ∧ OB wr w.heap.size A (33 + k) c (preB M m ++ padTo mech.data.toList ++ [1] ++ zeros k) ∧ 33 + k ≤ 64 ∧ Below w.heap.size w wr)
          (fun v _ => 64 - lenV v)
        case atStart => exact ⟨A2, c2, 0, rfl, by simpa [zeros] using ho2, by omega, hb2⟩
        case round =>
          obtain ⟨A, c, k, rfl, ho, hk, hb⟩ := hrel
          by_cases hlt : 33 + k < 64
          · go_wp2_with (first
              | (at_builtin
                 refine wpl_appB rfl (.tmp 34) (.tmp 35) 22 rfl w.heap.size _ (33 + k) _ _ rfl (ho.alloc _) _ 1 [0] rfl (srcB (OB.lit wr _ (Nat.le_refl _) _ _ lit0 1 rfl (by decide)).rb) (33 + k + 1) rfl (by omega) (by have := hb.size; simp; omega) ?_
                 intro A3 c3 w3 ho3 hg3 ha3
                 have hb3 : Below w.heap.size w w3 := (hb.alloc hb.size _).grown hg3 (by have := hb.size; simp; omega) (fun k hk => ho.base_le hk)))
            go_roundw
            case rel => exact ⟨A3, c3, k + 1, rfl, by rw [List.append_assoc, zeros_snoc] at ho3; exact ho3, by omega, hb3⟩
            case measure => simp [lenV]; omega
          · obtain rfl : k = 31 := by omega
            go_wp2_with fail
            go_ret
            exact ⟨A, c, rfl, greet_done ho, hb⟩
end Go.Proofs.Ytkpcepdalegmmaa
