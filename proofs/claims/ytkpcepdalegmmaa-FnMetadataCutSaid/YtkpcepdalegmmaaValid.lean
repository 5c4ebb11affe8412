/- Greetings: defaultVersion, (*greeting).validate, asBool. -/
import Derived.Test.YtkpcepdalegmmaaUnm
import Derived.Deep.QuietTactic
import Derived.BigQuiet
namespace Go.Proofs.Ytkpcepdalegmmaa
open Go.RowKit

theorem defaultVersion (w : World) : Calls Try.prog 72 #[] w fun e w' => e = .returned (.agg #[.int .u8 3, .int .u8 0]) ∧ Below w.heap.size w w' := by
  go_enter Try.func72, Try.ntmps72
  go_wp2_with fail
  have hb := Blk.new w 101 #[.int .u8 3, .int .u8 0]
  have k0 := hb.cell 0
  have k1 := hb.cell 1
  simp only [List.getElem?_toArray, List.getElem?_cons_zero, List.getElem?_cons_succ] at k0 k1
  have hbl : Below w.heap.size w (w.alloc (.cells #[.int .u8 3, .int .u8 0] 101)) := (Below.refl _ _).alloc (Nat.le_refl _) _
  generalize w.alloc (.cells #[.int .u8 3, .int .u8 0] 101) = W at *
  refine bodyPost_ret (v := .agg #[.int .u8 3, .int .u8 0]) (by simp [results, Try.results72, go_sem, k0, k1]) rfl ⟨rfl, hbl⟩

theorem ver_eq (W : World) : (binOp .eql 101 (.agg #[.int .u8 3, .int .u8 0]) (.agg #[.int .u8 3, .int .u8 0])).run Try.prog W = .ok (.bool true) W := by kernel_rfl
theorem ver_ne (W : World) : (binOp .eql 101 (.agg #[.int .u8 3, .int .u8 1]) (.agg #[.int .u8 3, .int .u8 0])).run Try.prog W = .ok (.bool false) W := by kernel_rfl

theorem validate0 (g : Nat) (T : TypeId) (l : List UInt8) (hl : l.length = 64) (w : World) (hg : BB w g T l) (h10 : l.getD 10 0 = 3) (h11 : l.getD 11 0 = 0) :
    Calls Try.prog 71 #[.pointer (some ⟨g, 0, none⟩), .agg #[.int .u8 3, .int .u8 0]] w fun e w' => e = .returned (.bool true) ∧ Below w.heap.size w w' := by
  have q10 := hg.cell (i := 10) (by omega)
  have q11 := hg.cell (i := 11) (by omega)
  rw [h10] at q10
  rw [h11] at q11
  have q10' : w.cell? ⟨g, 10, none⟩ = some (.int .u8 3) := q10
  have q11' : w.cell? ⟨g, 11, none⟩ = some (.int .u8 0) := q11
  clear q10 q11 h10 h11
  have hgl := hg.lt
  have hne : ¬ w.heap.size = g := Nat.ne_of_gt hgl
  have ve := ver_eq
  go_enter Try.func71, Try.ntmps71
  go_wp2_with fail
  have hbl : Below w.heap.size w (w.alloc (.cells #[.int .u8 3, .int .u8 0] 101)) := (Below.refl _ _).alloc (Nat.le_refl _) _
  have hb := Blk.new w 101 #[.int .u8 3, .int .u8 0]
  have k0 := hb.cell 0
  have k1 := hb.cell 1
  have a10 := (hbl.cell (p := ⟨g, 10, none⟩) hgl).trans q10'
  have a11 := (hbl.cell (p := ⟨g, 11, none⟩) hgl).trans q11'
  simp only [List.getElem?_toArray, List.getElem?_cons_zero, List.getElem?_cons_succ] at k0 k1
  generalize w.alloc (.cells #[.int .u8 3, .int .u8 0] 101) = W at *
  go_quiet (fail)
  rename_i aK
  refine aK _ _ ?_
  go_wp2_with fail
  go_ret
  exact ⟨rfl, below_drewN hbl _⟩

theorem validate1 (g : Nat) (T : TypeId) (l : List UInt8) (hl : l.length = 64) (w : World) (hg : BB w g T l) (h10 : l.getD 10 0 = 3) (h11 : l.getD 11 0 = 1) :
    Calls Try.prog 71 #[.pointer (some ⟨g, 0, none⟩), .agg #[.int .u8 3, .int .u8 0]] w fun e w' => e = .returned (.bool true) ∧ Below w.heap.size w w' := by
  have q10 := hg.cell (i := 10) (by omega)
  have q11 := hg.cell (i := 11) (by omega)
  rw [h10] at q10
  rw [h11] at q11
  have q10' : w.cell? ⟨g, 10, none⟩ = some (.int .u8 3) := q10
  have q11' : w.cell? ⟨g, 11, none⟩ = some (.int .u8 1) := q11
  clear q10 q11 h10 h11
  have hgl := hg.lt
  have hne : ¬ w.heap.size = g := Nat.ne_of_gt hgl
  have ve := ver_ne
  go_enter Try.func71, Try.ntmps71
  go_wp2_with fail
  have hbl : Below w.heap.size w (w.alloc (.cells #[.int .u8 3, .int .u8 0] 101)) := (Below.refl _ _).alloc (Nat.le_refl _) _
  have hb := Blk.new w 101 #[.int .u8 3, .int .u8 0]
  have k0 := hb.cell 0
  have k1 := hb.cell 1
  have a10 := (hbl.cell (p := ⟨g, 10, none⟩) hgl).trans q10'
  have a11 := (hbl.cell (p := ⟨g, 11, none⟩) hgl).trans q11'
  simp only [List.getElem?_toArray, List.getElem?_cons_zero, List.getElem?_cons_succ] at k0 k1
  generalize w.alloc (.cells #[.int .u8 3, .int .u8 0] 101) = W at *
  go_quiet (fail)
  rename_i aK
  refine aK _ _ ?_
  go_wp2_with fail
  go_quiet (fail)
  rename_i aK
  refine aK _ _ ?_
  go_wp2_with fail
  go_ret
  exact ⟨rfl, below_drewN (below_drewN hbl _) _⟩

theorem asBool_ok (x : UInt8) (b : Bool) (hx : x = boolB b) (w : World) : Calls Try.prog 58 #[.int .u8 x.toNat] w fun e w' => e = .returned (.tuple #[.bool b, .nilIface]) ∧ w = w' := by
  cases b
  · subst hx
    rw [show ((boolB false).toNat : Int) = 0 from rfl]
    go_enter Try.func58, Try.ntmps58
    go_wp2_with fail
    go_ret2
    exact ⟨rfl, rfl⟩
  · subst hx
    rw [show ((boolB true).toNat : Int) = 1 from rfl]
    go_enter Try.func58, Try.ntmps58
    go_wp2_with fail
    go_ret2
    exact ⟨rfl, rfl⟩
end Go.Proofs.Ytkpcepdalegmmaa
