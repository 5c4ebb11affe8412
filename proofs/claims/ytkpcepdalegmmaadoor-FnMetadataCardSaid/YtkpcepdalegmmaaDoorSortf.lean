/- slices.SortFunc at a short slice of properties. -/
import Derived.Test.YtkpcepdalegmmaaDoorIns
namespace Go.Proofs.YtkpcepdalegmmaaDoor
open Go.RowKit

set_option maxRecDepth 100000 in
set_option maxHeartbeats 4000000 in
theorem Len64_any (k : Nat) (hk : k ≤ 10) (w : World) : Calls Tryd.prog 52 #[.int .u64 (k : Int)] w fun e w' => (∃ v : Int, e = .returned (.int .i64 v)) ∧ w' = w := by
  have h : k = 0 ∨ k = 1 ∨ k = 2 ∨ k = 3 ∨ k = 4 ∨ k = 5 ∨ k = 6 ∨ k = 7 ∨ k = 8 ∨ k = 9 ∨ k = 10 := by omega
  rcases h with rfl | rfl | rfl | rfl | rfl | rfl | rfl | rfl | rfl | rfl | rfl <;>
  · go_enter Tryd.func52, Tryd.ntmps52
    go_wp2_with fail
    go_ret
    exact ⟨⟨_, rfl⟩, rfl⟩
theorem Len_any (k : Nat) (hk : k ≤ 10) (w : World) : Calls Tryd.prog 34 #[.int .u64 (k : Int)] w fun e w' => (∃ v : Int, e = .returned (.int .i64 v)) ∧ w' = w := by
  go_enter Tryd.func34, Tryd.ntmps34
  go_wp2_with fail
  refine (Len64_any k hk _).mono ?_
  rintro e w' ⟨⟨v, rfl⟩, rfl⟩
  go_wp2_with fail
  go_ret
  exact ⟨⟨v, rfl⟩, rfl⟩

set_option maxRecDepth 100000 in
theorem pdqsort0 (A : Option Addr) (c : Nat) (lim : Int) (w : World) :
    Calls Tryd.prog 33 #[.slice A 0 c, .int .i64 0, .int .i64 0, .int .i64 lim, .func (.func 23) #[] #[]] w fun e w' => e = .returned (.tuple #[]) ∧ w' = w := by
  have h0 : Calls Tryd.prog 43 #[.slice A 0 c, .int .i64 0, .int .i64 0, .func (.func 23) #[] #[]] w fun e w' => e = .returned (.tuple #[]) ∧ w' = w := by
    go_enter Tryd.func43, Tryd.ntmps43
    go_wp2_with fail
    refine wp_loop_rounds 1 ?_
    rw [rounds_succ]
    go_wp2_with fail
    exact bodyPost_end (results_none rfl _ _ _) rfl ⟨rfl, rfl⟩
  have HC := Lib.hid h0
  clear h0
  go_enter Tryd.func33, Tryd.ntmps33
  go_wp2_with fail
  refine wp_loop_rounds 1 ?_
  rw [rounds_succ]
  go_wp2_with fail
  refine HC.out.mono ?_
  rintro e w2 ⟨rfl, rfl⟩
  go_wp2_with fail
  exact bodyPost_ret (results_none rfl _ _ _) rfl ⟨rfl, rfl⟩

/-- What SortFunc leaves. -/
def SortedOut (w : World) (base n : Nat) (A : Option Addr) (ys : List Kv) (e : Ending) (w' : World) : Prop := e = .returned (.tuple #[]) ∧ (∃ zs, KvS w' w'.heap.size A n zs ∧ zs.Perm ys) ∧ Below base w w'
set_option maxRecDepth 100000 in
theorem SortFunc (base n c : Nat) (A : Option Addr) (ys : List Kv) (w : World) (ho : w.ownsRow base 36 2 (.slice A n c) n (kvCells ys)) (hn : n ≤ 10) :
    Calls Tryd.prog 22 #[.slice A n c, .func (.func 23) #[] #[]] w (SortedOut w base n A ys) := by
  by_cases h0 : n = 0
  · subst h0
    have hy : ys = [] := List.eq_nil_of_length_eq_zero (by have := ho.1; rw [kvCells_length] at this; omega)
    subst hy
    clear ho
    go_enter Tryd.func22, Tryd.ntmps22
    go_wp2_with fail
    refine (Len_any 0 (by decide) _).mono ?_
    rintro e w' ⟨⟨v, rfl⟩, rfl⟩
    go_wp2_with fail
    refine (pdqsort0 A c v _).mono ?_
    rintro e w' ⟨rfl, rfl⟩
    go_wp2_with fail
    exact bodyPost_end (results_none rfl _ _ _) rfl ⟨rfl, ⟨[], Reads.none_, List.Perm.refl _⟩, Below.refl _ _⟩
  · obtain ⟨g, rfl, hb⟩ : ∃ g, A = some ⟨g, 0, none⟩ ∧ base ≤ g := by
      rcases ho.2 with ⟨hv, h1⟩ | ⟨g', cap, cur, hv, hb, _⟩
      · exact absurd h1 h0
      · injection hv with hA
        exact ⟨g', hA, hb⟩
    have hy := ArrK.of_own ho (by omega)
    have HY := Lib.hid hy
    clear hy ho
    go_enter Tryd.func22, Tryd.ntmps22
    go_wp2_with fail
    refine (Len_any n hn _).mono ?_
    rintro e w' ⟨⟨v, rfl⟩, rfl⟩
    go_wp2_with fail
    refine (pdqsort g n c v ys _ HY.out (by omega)).mono ?_
    rintro e w' ⟨rfl, ⟨zs, hz, hp⟩, ha⟩
    have HF := Lib.hid (⟨hz, hp, ha⟩ : _ ∧ _ ∧ _)
    have hgw := HY.out.2.1
    clear hz hp ha
    go_wp2_with fail
    exact bodyPost_end (results_none rfl _ _ _) rfl ⟨rfl, ⟨zs, HF.out.1.kvs, HF.out.2.1⟩, HF.out.2.2.below (by omega) (by simp; omega)⟩
end Go.Proofs.YtkpcepdalegmmaaDoor
