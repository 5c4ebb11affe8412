/- Parts of a proof, laid behind one another: PLAIN: laws.FnPlain. -/
import Derived.Test.YtkpcepdalegmmaaGreatDoorM33
/-! PLAIN: laws.FnPlain. -/
namespace Go.Proofs.YtkpcepdalegmmaaGreatDoor
open Go.RowKit

theorem plain_small (U P : ByteArray) (w : World) (hn : U.size ≤ maxLen) (hm : P.size ≤ maxLen) (h : 2147483647 < U.size ∨ 2147483647 < P.size) :
    Calls Tryz.prog 3 #[.string U, .string P] w fun e w' => e = .returned (.bool true) ∧ Below w.heap.size w w' := by
  unfold maxLen at hn hm
  by_cases h1 : 2147483647 < U.size
  · go_enter Tryz.func3, Tryz.ntmps3
    go_wp2_with fail
    go_ret
    exact ⟨rfl, Below.refl _ _⟩
  · have h2 : 2147483647 < P.size := by omega
    clear h
    go_enter Tryz.func3, Tryz.ntmps3
    go_wp2_with fail
    go_ret
    exact ⟨rfl, Below.refl _ _⟩
theorem plain_other (U P : ByteArray) (w : World) (hn : U.size ≤ 2147483647) (hm : P.size ≤ 2147483647) (h : 255 < U.size ∨ 255 < P.size) :
    Calls Tryz.prog 3 #[.string U, .string P] w fun e w' => e = .returned (.bool true) ∧ Below w.heap.size w w' := by
  by_cases h1 : 255 < U.size
  · clear h
    go_enter Tryz.func3, Tryz.ntmps3
    go_wp2_with fail
    refine (works_any _).mono ?_
    rintro e w' ⟨rfl, hb⟩
    go_wp2_with fail
    go_ret
    exact ⟨rfl, hb⟩
  · have h2 : 255 < P.size := h.resolve_left h1
    clear h
    go_enter Tryz.func3, Tryz.ntmps3
    go_wp2_with fail
    refine (works_any _).mono ?_
    rintro e w' ⟨rfl, hb⟩
    go_wp2_with fail
    go_ret
    exact ⟨rfl, hb⟩
set_option maxRecDepth 100000 in
theorem plain_main (U P : ByteArray) (w : World) (hn : U.size ≤ 255) (hm : P.size ≤ 255) :
    Calls Tryz.prog 3 #[.string U, .string P] w fun e w' => e = .returned (.bool true) ∧ Below w.heap.size w w' := by
  go_enter Tryz.func3, Tryz.ntmps3
  go_wp2_with fail
  refine (Plain U P w hn hm).mono ?_
  rintro e w1 ⟨A1, n1, c1, rfl, ho1, hb1⟩
  have S_of : ∀ V, Below w1.heap.size w1 V → (convert 23 9 (.slice A1 n1 c1)).run Tryz.prog V = .ok (.string ⟨(helloL U.data.toList P.data.toList).toArray⟩) V := fun V hV => run_strB (c := c1) (ho1.rb.after hV)
  have H1 := Lib.hid hb1
  clear hb1 ho1
  go_wp2_with fail
  refine wp_region_held_drew (S := (fun V => (convert 23 9 (.slice A1 n1 c1)).run Tryz.prog V = .ok (.string ⟨(helloL U.data.toList P.data.toList).toArray⟩) V)) (by kernel_rfl) (S_of _ (Below.refl _ _).drew) (fun hHeld => ?_)
  refine wpAnyH_take (i := 0) (v := ?_) (by simp only [List.getElem?_toArray, List.getElem?_cons_zero]; rfl) (by kernel_rfl) (by kernel_rfl) (by kernel_rfl) (by exact fun _ _ _ h => h) (Or.inl ⟨by rfl, ?_⟩) (by assumption) ?_
  rotate_left
  · intro w hSw
    try dsimp only at hSw
    go_simp
    try with_reducible rfl
  try go_frame
  refine wpAnyH_take (i := 1) (v := ?_) (by simp only [List.getElem?_toArray, List.getElem?_cons_zero, List.getElem?_cons_succ]; rfl) (by kernel_rfl) (by kernel_rfl) (by kernel_rfl) (by exact fun _ _ _ h => h) (Or.inl ⟨by rfl, ?_⟩) (by assumption) ?_
  rotate_left
  · intro w hSw
    try dsimp only at hSw
    go_simp
    try with_reducible rfl
  try go_frame
  refine wpAnyH_take (i := 2) (v := ?_) (by simp only [List.getElem?_toArray, List.getElem?_cons_zero, List.getElem?_cons_succ]; rfl) (by kernel_rfl) (by kernel_rfl) (by kernel_rfl) (by exact fun _ _ _ h => h) (Or.inl ⟨by rfl, ?_⟩) (by assumption) ?_
  rotate_left
  · intro w hSw
    try dsimp only at hSw
    go_simp
    try with_reducible rfl
  try go_frame
  refine wpAnyH_take (i := 3) (v := ?_) (by simp only [List.getElem?_toArray, List.getElem?_cons_zero, List.getElem?_cons_succ]; rfl) (by kernel_rfl) (by kernel_rfl) (by kernel_rfl) (by exact fun _ _ _ h => h) (Or.inl ⟨by rfl, ?_⟩) (by assumption) ?_
  rotate_left
  · intro w hSw
    try dsimp only at hSw
    go_simp
    try with_reducible rfl
  try go_frame
  refine wpAnyH_take (i := 4) (v := ?_) (by simp only [List.getElem?_toArray, List.getElem?_cons_zero, List.getElem?_cons_succ]; rfl) (by kernel_rfl) (by kernel_rfl) (by kernel_rfl) (by exact fun _ _ _ h => h) (Or.inl ⟨by rfl, ?_⟩) (by assumption) ?_
  rotate_left
  · intro w hSw
    try dsimp only at hSw
    go_simp
    try with_reducible rfl
  try go_frame
  refine wpAnyH_take (i := 5) (v := ?_) (by simp only [List.getElem?_toArray, List.getElem?_cons_zero, List.getElem?_cons_succ]; rfl) (by kernel_rfl) (by kernel_rfl) (by kernel_rfl) (by exact fun _ _ _ h => h) (Or.inl ⟨by rfl, ?_⟩) (by assumption) ?_
  rotate_left
  · intro w hSw
    try dsimp only at hSw
    go_simp
    try with_reducible rfl
  try go_frame
  refine wpAnyH_ready (rs := [6]) (by kernel_rfl) (by simp) ?_
  refine AllReadyH.cons (by simp only [List.getElem?_toArray, List.getElem?_cons_zero, List.getElem?_cons_succ]; rfl) (fun K hK => ?_) AllReadyH.nil
  go_simp
  (go_at_call 6)
  refine (specHello U P w1.drew hn hm).mono ?_
  rintro e w2 ⟨A2, n2, c2, rfl, ho2, hb2⟩
  have hb12 : Below w1.heap.size w1 w2 := (Below.refl _ w1).drew.trans hb2
  have s2 := run_strB (c := c2) ho2.rb
  try go_wp2_with fail
  refine hK.out _ _ (S_of _ hb12) (fun hHeld => ?_)
  clear hK K
  try go_frame
  refine wpAnyH_ready (rs := [7]) (by kernel_rfl) (by simp) ?_
  refine AllReadyH.cons (by simp only [List.getElem?_toArray, List.getElem?_cons_zero, List.getElem?_cons_succ]; rfl) (fun K hK => ?_) AllReadyH.nil
  go_simp
  refine hK.out _ _ (S_of _ hb12) (fun hHeld => ?_)
  clear hK K
  try go_frame
  refine wpAnyH_take (i := 8) (v := ?_) (by simp only [List.getElem?_toArray, List.getElem?_cons_zero, List.getElem?_cons_succ]; rfl) (by kernel_rfl) (by kernel_rfl) (by kernel_rfl) (by exact fun _ _ _ h => h) (Or.inl ⟨by rfl, ?_⟩) (by assumption) ?_
  rotate_left
  · intro w hSw
    try dsimp only at hSw
    go_simp
    try with_reducible rfl
  try go_frame
  refine wpAnyH_take (i := 9) (v := ?_) (by simp only [List.getElem?_toArray, List.getElem?_cons_zero, List.getElem?_cons_succ]; rfl) (by kernel_rfl) (by kernel_rfl) (by kernel_rfl) (by exact fun _ _ _ h => h) (Or.inl ⟨by rfl, ?_⟩) (by assumption) ?_
  rotate_left
  · intro w hSw
    try dsimp only at hSw
    go_simp
    try with_reducible rfl
  try go_frame
  refine wpAnyH_take (i := 10) (v := ?_) (by simp only [List.getElem?_toArray, List.getElem?_cons_zero, List.getElem?_cons_succ]; rfl) (by kernel_rfl) (by kernel_rfl) (by kernel_rfl) (by exact fun _ _ _ h => h) (Or.inl ⟨by rfl, ?_⟩) (by assumption) ?_
  rotate_left
  · intro w hSw
    try dsimp only at hSw
    go_simp
    try with_reducible rfl
  try go_frame
  refine wpAnyH_ready (rs := [11]) (by kernel_rfl) (by simp) ?_
  refine AllReadyH.cons (by simp only [List.getElem?_toArray, List.getElem?_cons_zero, List.getElem?_cons_succ]; rfl) (fun K hK => ?_) AllReadyH.nil
  go_simp
  (go_at_call 4)
  refine (works_any _).mono ?_
  rintro e w3 ⟨rfl, hb3⟩
  have hb13 : Below w1.heap.size w1 w3 := below_seq hb12 hb3 hb12.size
  try go_wp2_with fail
  refine hK.out _ _ (S_of _ hb13) (fun hHeld => ?_)
  clear hK K
  try go_frame
  refine wpAnyH_take (i := 12) (v := ?_) (by simp only [List.getElem?_toArray, List.getElem?_cons_zero, List.getElem?_cons_succ]; rfl) (by kernel_rfl) (by kernel_rfl) (by kernel_rfl) (by exact fun _ _ _ h => h) (Or.inl ⟨by rfl, ?_⟩) (by assumption) ?_
  rotate_left
  · intro w hSw
    try dsimp only at hSw
    go_simp
    try with_reducible rfl
  try go_frame
  refine wpAnyH_take (i := 13) (v := ?_) (by simp only [List.getElem?_toArray, List.getElem?_cons_zero, List.getElem?_cons_succ]; rfl) (by kernel_rfl) (by kernel_rfl) (by kernel_rfl) (by exact fun _ _ _ h => h) (Or.inl ⟨by rfl, ?_⟩) (by assumption) ?_
  rotate_left
  · intro w hSw
    try dsimp only at hSw
    go_simp
    try with_reducible rfl
  try go_frame
  refine wpAnyH_done (by kernel_rfl) ?_ _
  go_wp2_with fail
  go_ret
  exact ⟨rfl, below_seq H1.out hb13 H1.out.size⟩
theorem FnPlain_any (U P : ByteArray) (w : World) (hn : U.size ≤ maxLen) (hm : P.size ≤ maxLen) :
    Calls Tryz.prog 3 #[.string U, .string P] w fun e w' => e = .returned (.bool true) ∧ Below w.heap.size w w' := by
  by_cases h1 : 2147483647 < U.size ∨ 2147483647 < P.size
  · exact plain_small U P w hn hm h1
  by_cases h2 : 255 < U.size ∨ 255 < P.size
  · exact plain_other U P w (by omega) (by omega) h2
  · exact plain_main U P w (by omega) (by omega)
end Go.Proofs.YtkpcepdalegmmaaGreatDoor
