/- Frames: ZZSend. -/
import Derived.Test.YtkpcepdalegmmaaSend2
namespace Go.Proofs.Ytkpcepdalegmmaa
open Go.RowKit

/-- (*Conn).send, whatever the frame. -/
theorem send_any (cmd more : Bool) (cn p base on oc m c : Nat) (iv : Value) (OA A : Option Addr) (ob l : List UInt8) (w : World) (hp : Blk w p 77 #[iv, .slice OA on oc]) (ho : OB w base OA on oc ob) (hr : RB w w.heap.size A m l) (hm : m ≤ 1000) (hsz : on ≤ 1099511627776) (hcn : IsConn w cn p) (hpb : p < cn) (hcb : cn < base) (hb : base ≤ w.heap.size)
    (hA : ∀ ad, A = some ad → ad.block ≠ p ∧ some ad.block ≠ OA.map (·.block)) :
    Calls Try.prog 80 #[.pointer (some ⟨cn, 0, none⟩), .bool cmd, .slice A m c, .int .u8 (if more = true then 1 else 0)] w (Sent w base p on iv OA ob (headF cmd more m ++ l)) := by
  by_cases h : m ≤ 255
  · cases cmd <;> cases more
    · exact send_s00 cn p base on oc m c iv OA A ob l w hp ho hr h hsz hcn hpb hcb hb hA
    · exact send_s01 cn p base on oc m c iv OA A ob l w hp ho hr h hsz hcn hpb hcb hb hA
    · exact send_s10 cn p base on oc m c iv OA A ob l w hp ho hr h hsz hcn hpb hcb hb hA
    · exact send_s11 cn p base on oc m c iv OA A ob l w hp ho hr h hsz hcn hpb hcb hb hA
  · cases cmd <;> cases more
    · exact send_l00 cn p base on oc m c iv OA A ob l w hp ho hr ⟨h, hm⟩ hsz hcn hpb hcb hb hA
    · exact send_l01 cn p base on oc m c iv OA A ob l w hp ho hr ⟨h, hm⟩ hsz hcn hpb hcb hb hA
    · exact send_l10 cn p base on oc m c iv OA A ob l w hp ho hr ⟨h, hm⟩ hsz hcn hpb hcb hb hA
    · exact send_l11 cn p base on oc m c iv OA A ob l w hp ho hr ⟨h, hm⟩ hsz hcn hpb hcb hb hA

set_option maxRecDepth 100000 in
theorem ZZSend (cmd more : Bool) (cn p base on oc m c : Nat) (iv : Value) (OA A : Option Addr) (ob l : List UInt8) (w : World) (hp : Blk w p 77 #[iv, .slice OA on oc]) (ho : OB w base OA on oc ob) (hr : RB w w.heap.size A m l) (hm : m ≤ 1000) (hsz : on ≤ 1099511627776) (hcn : IsConn w cn p) (hpb : p < cn) (hcb : cn < base) (hb : base ≤ w.heap.size)
    (hA : ∀ ad, A = some ad → ad.block ≠ p ∧ some ad.block ≠ OA.map (·.block)) :
    Calls Try.prog 63 #[.pointer (some ⟨cn, 0, none⟩), .bool cmd, .slice A m c, .bool more] w (Sent w base p on iv OA ob (headF cmd more m ++ l)) := by
  have hs := Lib.hid (send_any cmd more cn p base on oc m c iv OA A ob l w hp ho hr hm hsz hcn hpb hcb hb hA)
  clear hp ho hr hcn hA hm hsz
  cases more
  · go_enter Try.func63, Try.ntmps63
    go_wp2_with fail
    refine (hs.out).mono ?_
    intro e w' h
    obtain rfl := h.1
    have HF := Lib.hid h
    clear h hs
    go_wp2_with fail
    go_ret
    exact HF.out
  · go_enter Try.func63, Try.ntmps63
    go_wp2_with fail
    refine (hs.out).mono ?_
    intro e w' h
    obtain rfl := h.1
    have HF := Lib.hid h
    clear h hs
    go_wp2_with fail
    go_ret
    exact HF.out
end Go.Proofs.Ytkpcepdalegmmaa
