/- Parts of a proof, laid behind one another: Frames: ZZRead. -/
import Derived.Test.YtkpcepdalegmmaaGreatDoorM09
/-! Frames: ZZRead. -/
namespace Go.Proofs.YtkpcepdalegmmaaGreatDoor
open Go.RowKit

set_option maxRecDepth 100000 in
theorem isCmd (a c d : Value) (t : Int) (b : Bool) (ht : t = if b = true then 1 else 0) (w : World) : Calls Tryz.prog 42 #[.agg #[a, .int .u8 t, c, d]] w fun e w' => e = .returned (.bool b) ∧ Below w.heap.size w w' := by
  have hb := (Blk.new w 110 #[a, .int .u8 t, c, d]).cell 1
  simp only [List.getElem?_toArray, List.getElem?_cons_zero, List.getElem?_cons_succ] at hb
  subst ht
  cases b
  · go_enter Tryz.func42, Tryz.ntmps42
    go_wp2_with fail
    go_ret
    exact ⟨rfl, (Below.refl _ _).alloc (Nat.le_refl _) _⟩
  · go_enter Tryz.func42, Tryz.ntmps42
    go_wp2_with fail
    go_ret
    exact ⟨rfl, (Below.refl _ _).alloc (Nat.le_refl _) _⟩

theorem ownsRow_below {w w' : World} {base size n c : Nat} {t : TypeId} {A : Option Addr} {xs : List Value} (h : w.ownsRow base t size (.slice A n c) n xs) (hb : Below w.heap.size w w') : w'.ownsRow base t size (.slice A n c) n xs := by
  refine ⟨h.1, ?_⟩
  rcases h.2 with h2 | ⟨g, cap, cur, e, hg, hh, r⟩
  · exact .inl h2
  · exact .inr ⟨g, cap, cur, e, hg, (hb.block g (Array.getElem?_eq_some_iff.1 hh).1).trans hh, r⟩
/-- What a whole message hands over. -/
def MsgOk (Z : Nat → Prop) (w : World) (p cn n : Nat) (out : Value) (rest : List UInt8) (fs : List Fr) (e : Ending) (w' : World) : Prop :=
  ∃ (IA' : Option Addr) (n' c' : Nat) (gs : List (Nat × List UInt8)) (FA : Option Addr) (fc : Nat), e = .returned (.tuple #[.slice FA gs.length fc, .bool (fs.any Fr.cmd), .nilIface]) ∧ w'.ownsRow w.heap.size 23 1 (.slice FA gs.length fc) gs.length (gotCells gs) ∧
    Got w' w.heap.size gs ∧ gs.map (·.2) = fs.map (·.body) ∧ Blk w' p 36 #[.slice IA' n' c', out] ∧ RB w' w.heap.size IA' n' rest ∧ n' ≤ c' ∧ n' ≤ n ∧ (∀ ad, IA' = some ad → Z ad.block) ∧ IsConn w' cn p ∧ Apart [p] w w'

set_option maxRecDepth 100000 in
theorem ZZRead (Z : Nat → Prop) (p cn : Nat) (IA : Option Addr) (n c : Nat) (out : Value) (inb rest : List UInt8) (fs : List Fr) (ok : Bool) (w : World) (hp : Blk w p 36 #[.slice IA n c, out]) (hr : RB w w.heap.size IA n inb) (hc : n ≤ c) (hn : n ≤ 1099511627776)
    (hoff : (∀ ad, IA = some ad → Z ad.block) ∧ (∀ b, Z b → b ≠ p)) (hcn : IsConn w cn p) (hne : cn ≠ p) (hm : Msgs rest true inb fs ok) :
    Calls Tryz.prog 28 #[.pointer (some ⟨cn, 0, none⟩)] w fun e w' =>
      (ok = true → MsgOk Z w p cn n out rest fs e w') ∧ (ok = false → (∃ v s, e = .returned (.tuple #[v, .bool false, .iface 87 (.string s)])) ∧ Apart [p, cn] w w') := by
  have hread := Conn_read Z p cn IA n c out inb rest fs ok w hp hr hc hn hoff hcn hne hm
  have hpw := hp.lt
  have hcw := hcn.lt
  clear hp hr hcn hm hoff
  go_enter Tryz.func28, Tryz.ntmps28
  go_wp2_with fail
  refine hread.mono ?_
  rintro e w1 ⟨hyes, hno⟩
  cases ok
  · obtain ⟨⟨FA, k, fc, s, rfl⟩, ha⟩ := hno rfl
    clear hyes hno hread
    go_wp2_with fail
    have hbl : Below w1.heap.size w1 (w1.alloc (.cells #[.slice FA k fc, .int .u8 0, .bool false, .iface 87 (.string s)] 110)) := (Below.refl _ _).alloc (Nat.le_refl _) _
    have hb := Blk.new w1 110 #[.slice FA k fc, .int .u8 0, .bool false, .iface 87 (.string s)]
    generalize w1.alloc (.cells #[.slice FA k fc, .int .u8 0, .bool false, .iface 87 (.string s)] 110) = W at *
    have hbl' := Lib.hid hbl
    have S_of : ∀ V, Below W.heap.size W V → V.cell? ⟨w1.heap.size, 0, none⟩ = some (.slice FA k fc) ∧ V.cell? ⟨w1.heap.size, 1, none⟩ = some (.int .u8 0) ∧ V.cell? ⟨w1.heap.size, 2, none⟩ = some (.bool false) ∧ V.cell? ⟨w1.heap.size, 3, none⟩ = some (.iface 87 (.string s)) := fun V hV =>
      ⟨(hb.after hV (Nat.le_refl _)).cell 0, (hb.after hV (Nat.le_refl _)).cell 1, (hb.after hV (Nat.le_refl _)).cell 2, (hb.after hV (Nat.le_refl _)).cell 3⟩
    clear hbl hb
    go_region_held3 (fun V => V.cell? ⟨w1.heap.size, 0, none⟩ = some (.slice FA k fc) ∧ V.cell? ⟨w1.heap.size, 1, none⟩ = some (.int .u8 0) ∧ V.cell? ⟨w1.heap.size, 2, none⟩ = some (.bool false) ∧ V.cell? ⟨w1.heap.size, 3, none⟩ = some (.iface 87 (.string s)))
      ((first | exact S_of _ (Below.refl _ _).drew | exact S_of _ (by assumption)))
      (first
        | (go_at_call 42
           refine (isCmd _ _ _ 0 false rfl _).mono ?_
           rintro e w2 ⟨rfl, hb2⟩
           have hb3 : Below W.heap.size W w2 := (Below.refl _ _).drew.trans hb2))
    rename_i aK _
    refine aK _ _ ?_
    have hX : Apart [p, cn] w w2 := ha.trans (Apart.of_below ((hbl'.out).trans (hb3.mono hbl'.out.size)))
    go_wp2_with fail
    refine bodyPost_ret (v := .tuple #[.slice FA k fc, .bool false, .iface 87 (.string s)]) (by simp [results, Tryz.results28, go_sem]) rfl ?_
    first | exact ⟨⟨_, _, rfl⟩, hX⟩ | exact ⟨(fun h => by cases h), fun _ => ⟨⟨_, _, rfl⟩, hX⟩⟩
  · obtain ⟨IA', n', c', gs, FA, fc, rfl, ho, hg, hmap, hp', hr', hc', hn', hoff', hcn', ha⟩ := hyes rfl
    clear hyes hno hread
    obtain ⟨k, hk⟩ : ∃ k, k = gs.length := ⟨_, rfl⟩
    obtain ⟨b, hb0⟩ : ∃ b, b = fs.any Fr.cmd := ⟨_, rfl⟩
    obtain ⟨t, ht⟩ : ∃ t : Int, t = if b = true then 1 else 0 := ⟨_, rfl⟩
    rw [← hb0, ← ht, ← hk]
    have HT := Lib.hid ht
    have HK := Lib.hid hk
    have HB := Lib.hid hb0
    clear ht hk hb0
    have HO := Lib.hid (⟨ho, hg, hmap, hp', hr', hc', hn', hoff', hcn'⟩ : _ ∧ _ ∧ _ ∧ _ ∧ _ ∧ _ ∧ _ ∧ _ ∧ _)
    clear ho hg hmap hp' hr' hc' hn' hoff' hcn'
    go_wp2_with fail
    have hbl : Below w1.heap.size w1 (w1.alloc (.cells #[.slice FA k fc, .int .u8 t, .bool false, .nilIface] 110)) := (Below.refl _ _).alloc (Nat.le_refl _) _
    have hb := Blk.new w1 110 #[.slice FA k fc, .int .u8 t, .bool false, .nilIface]
    generalize w1.alloc (.cells #[.slice FA k fc, .int .u8 t, .bool false, .nilIface] 110) = W at *
    have hbl' := Lib.hid hbl
    have S_of : ∀ V, Below W.heap.size W V → V.cell? ⟨w1.heap.size, 0, none⟩ = some (.slice FA k fc) ∧ V.cell? ⟨w1.heap.size, 1, none⟩ = some (.int .u8 t) ∧ V.cell? ⟨w1.heap.size, 2, none⟩ = some (.bool false) ∧ V.cell? ⟨w1.heap.size, 3, none⟩ = some (.nilIface) := fun V hV =>
      ⟨(hb.after hV (Nat.le_refl _)).cell 0, (hb.after hV (Nat.le_refl _)).cell 1, (hb.after hV (Nat.le_refl _)).cell 2, (hb.after hV (Nat.le_refl _)).cell 3⟩
    clear hbl hb
    go_region_held3 (fun V => V.cell? ⟨w1.heap.size, 0, none⟩ = some (.slice FA k fc) ∧ V.cell? ⟨w1.heap.size, 1, none⟩ = some (.int .u8 t) ∧ V.cell? ⟨w1.heap.size, 2, none⟩ = some (.bool false) ∧ V.cell? ⟨w1.heap.size, 3, none⟩ = some (.nilIface))
      ((first | exact S_of _ (Below.refl _ _).drew | exact S_of _ (by assumption)))
      (first
        | (go_at_call 42
           refine (isCmd _ _ _ t b HT.out _).mono ?_
           rintro e w2 ⟨rfl, hb2⟩
           have hb3 : Below W.heap.size W w2 := (Below.refl _ _).drew.trans hb2))
    rename_i aK _
    refine aK _ _ ?_
    have hX : Below w1.heap.size w1 w2 := (hbl'.out).trans (hb3.mono hbl'.out.size)
    have hF : MsgOk Z w p cn n out rest fs (.returned (.tuple #[.slice FA k fc, .bool b, .nilIface])) w2 := by
      obtain ⟨ho, hg, hmap, hp', hr', hc', hn', hoff', hcn'⟩ := HO.out
      have h1 := ha.size
      refine ⟨IA', n', c', gs, FA, fc, by rw [HK.out, HB.out], ownsRow_below ho hX, fun x hx => ⟨(hg x hx).1.after hX (Nat.le_refl _), (hg x hx).2⟩, hmap, hp'.after hX (Nat.le_refl _), hr'.below (hX.mono h1), hc', hn', hoff', hcn'.after hX (Nat.le_refl _), ha.trans (Apart.of_below hX)⟩
    clear HO
    go_wp2_with fail
    refine bodyPost_ret (v := .tuple #[.slice FA k fc, .bool b, .nilIface]) (by simp [results, Tryz.results28, go_sem]) rfl ?_
    first | exact hF | exact ⟨fun _ => hF, fun h => by cases h⟩
end Go.Proofs.YtkpcepdalegmmaaGreatDoor
