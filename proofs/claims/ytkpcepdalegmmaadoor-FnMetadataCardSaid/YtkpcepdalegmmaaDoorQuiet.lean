/- The contracts of 'quietly' and of its deferred closure: whether the function that it is handed returns or panics, it comes back and says which. -/
import Derived.Test.YtkpcepdalegmmaaDoorRows
import Derived.WalkKit
import Derived.Defers
import Derived.Recover
namespace Go.Proofs.YtkpcepdalegmmaaDoor
open Go.RowKit

theorem quiet_catch (p : Addr) (x : Value) (u : TypeId) (pv : Value) (older : List PanicEntry) (w : World) (hc : w.cell? p = some x) (hz : w.frozen? p = false) :
    CallsD Tryd.prog 30 #[.pointer (some p)] (.panicking ({ v := .iface u pv, recovered := false } :: older)) w fun e u' w' =>
      e = .returned (.tuple #[]) ∧ u' = .panicking ({ v := .iface u pv, recovered := true } :: older) ∧ w' = w.setCell p (.bool false) := by
  refine callsD_of_wpS Tryd.func30 rfl fun c₀ cs hu => ?_
  apply wpS_seq
  apply wpS_region
  simp [wpOpsS, go_sem, recoverD, hu, Tryd.ntmps30, Exit.thenS]
  refine wpS_cond (t := true) (by simp [Act.eval, Array.replicate]) ?_
  simp only [if_true]
  apply wpS_region
  simp [wpOpsS, go_sem, hc, hz, bodyPostS, results, Tryd.results30]

theorem quiet_idle (p : Addr) (w : World) :
    CallsD Tryd.prog 30 #[.pointer (some p)] .returning w fun e u' w' => e = .returned (.tuple #[]) ∧ u' = .returning ∧ w' = w := by
  refine callsD_of_wpS Tryd.func30 rfl fun c₀ cs hu => ?_
  apply wpS_seq
  apply wpS_region
  simp [wpOpsS, go_sem, recoverD, hu, Tryd.ntmps30, Exit.thenS]
  refine wpS_cond (t := false) (by simp [Act.eval, Array.replicate]) ?_
  simp only [Bool.false_eq_true, if_false]
  refine wpS_of_wp (wp_skip ?_)
  cases c₀
  simp_all [bodyPostS, results, Tryd.results30]

/-- What a function handed to 'quietly' may do: it returns (true), or it panics with a value (false); 'ok' is the variable that 'quietly' has laid. -/
def Quietly (ok : Addr) (Q : Bool → World → Prop) (e : Ending) (w : World) : Prop :=
  w.cell? ok = some (.bool false) ∧ w.frozen? ok = false ∧ ((e = .returned (.tuple #[]) ∧ Q true w) ∨ (∃ u pv, e = .panicked [{ v := .iface u pv, recovered := false }] ∧ Q false w))

theorem quietly_any (f : FuncId) (caps : Array Value) (w : World) (Q : Bool → World → Prop)
    (hin : ∀ W : World, (callFunc f caps).run Tryd.prog W = .ok (.enter f caps) W)
    (h : Calls Tryd.prog f caps (w.alloc (.cells #[.bool false] 4)) (Quietly ⟨w.heap.size, 0, none⟩ Q)) :
    Calls Tryd.prog 19 #[.func (.func f) #[] caps] w fun e w' => ∃ b w1, e = .returned (.bool b) ∧ Q b w1 ∧ w' = w1.setCell ⟨w.heap.size, 0, none⟩ (.bool b) := by
  have hmf : ∀ (fn : Fn) (first cap : Array Value) (w : World), (Instr.makeFunc fn first cap).run Tryd.prog w = .ok (.func fn first cap) w := fun _ _ _ _ => rfl
  go_enter_defers Tryd.func19, Tryd.ntmps19
  go_wp2_with fail
  refine h.mono ?_
  clear h
  rintro e w1 ⟨hc, hz, (⟨rfl, hq⟩ | ⟨u, pv, rfl, hq⟩)⟩
  · go_wp2_with fail
    refine leaves_cons (f := 30) (args := #[.pointer (some ⟨w.heap.size, 0, none⟩)]) (by simp) (by simp [go_sem]) ?_
    refine (quiet_idle ⟨w.heap.size, 0, none⟩ _).mono ?_
    rintro e u' w'' ⟨rfl, rfl, rfl⟩
    have hc' := World.cell?_setCell_same w1 _ (.bool true) hc
    exact ⟨_, (by simp [results, Tryd.results19, go_sem, hc']), true, w1, rfl, hq, rfl⟩
  · simp only []
    refine leaves_cons (f := 30) (args := #[.pointer (some ⟨w.heap.size, 0, none⟩)]) (by simp) (by simp [go_sem]) ?_
    refine (quiet_catch ⟨w.heap.size, 0, none⟩ _ _ _ [] _ hc hz).mono ?_
    rintro e u' w'' ⟨rfl, rfl, rfl⟩
    have hc' := World.cell?_setCell_same w1 _ (.bool false) hc
    exact ⟨_, (by simp [results, Tryd.results19, go_sem, hc']), false, w1, rfl, hq, rfl⟩
end Go.Proofs.YtkpcepdalegmmaaDoor
