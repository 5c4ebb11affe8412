/- laws.FnFrames: the walk. -/
import Derived.Test.YtkpcepdalegmmaaFmtF
import Derived.Test.YtkpcepdalegmmaaGood
import Derived.Deep.RegionHeld3
import Derived.Maps.RangeWalk
namespace Go.Proofs.Ytkpcepdalegmmaa
open Go.RowKit

theorem encs_of_keys : ∀ (os fs : List Fr), os.map keyOf = fs.map keyOf → (∀ f ∈ os, f.body.length = f.n) → (∀ f ∈ fs, f.body.length = f.n) → encs os = encs fs := by
  intro os
  induction os with
  | nil =>
    intro fs h _ _
    cases fs with
    | nil => rfl
    | cons f r => cases h
  | cons o os ih =>
    intro fs h h1 h2
    cases fs with
    | nil => cases h
    | cons f r =>
      simp only [List.map_cons, List.cons.injEq] at h
      have hk := h.1
      simp only [keyOf, Prod.mk.injEq] at hk
      have e1 := h1 o (List.mem_cons_self ..)
      have e2 := h2 f (List.mem_cons_self ..)
      have := ih r h.2 (fun x hx => h1 x (List.mem_cons_of_mem _ hx)) (fun x hx => h2 x (List.mem_cons_of_mem _ hx))
      simp only [encs, List.flatMap_cons] at this ⊢
      rw [this]
      congr 1
      unfold encF
      rw [← e1, ← e2, hk.1, hk.2.1, hk.2.2]

section
variable (A : Option Addr) (n c : Nat) (fs : List Fr) (w : World)
theorem fr_small (hr : FrS w w.heap.size A n fs) (hn : n ≤ maxLen) (hb : ∀ f ∈ fs, f.n ≤ maxLen) (h : (decide (n ≤ 2147483647) && fs.all small) = false) :
    Calls Try.prog 7 #[.slice A n c] w fun e w' => e = .returned (.bool true) ∧ Below w.heap.size w w' := by
  have h1 := Lib.hid h
  clear h
  go_enter Try.func7, Try.ntmps7
  go_wp2_with fail
  refine (zzFits1 A n c fs w hr hn hb).mono ?_
  rintro e w' ⟨rfl, hb1⟩
  rw [h1.out]
  go_wp2_with fail
  go_ret
  exact ⟨rfl, hb1⟩

set_option maxRecDepth 100000 in
set_option maxHeartbeats 16000000 in
theorem fr_main (hr : FrS w w.heap.size A n fs) (hn : n ≤ 2147483647) (hb : ∀ f ∈ fs, f.n ≤ 2147483647) (h : (decide (n ≤ 2147483647) && fs.all small) = true) :
    Calls Try.prog 7 #[.slice A n c] w fun e w' => e = .returned (.bool true) ∧ Below w.heap.size w w' := by
  have h1 := Lib.hid h
  clear h
  have hl := Lib.hid hr.len
  go_enter Try.func7, Try.ntmps7
  go_wp2_with fail
  refine (zzFits1 A n c fs w hr (by unfold maxLen; omega) (fun f hf => by unfold maxLen; have := hb f hf; omega)).mono ?_
  rintro e w1 ⟨rfl, hb1⟩
  rw [h1.out]
  go_wp2_with fail
  refine (frames A n c fs w1 (hr.after hb1) hn).mono ?_
  rintro e w2 ⟨A1, c1, rfl, ho, hb2⟩
  have hb12 := below_seq hb1 hb2 hb1.size
  have hrw2 := hr.after hb12
  obtain ⟨hr2, hc1⟩ := FrS.of_own ho ((hr.2.after hb1).after hb2)
  clear ho hb1 hb2
  go_wp2_with fail
  refine (spec_Proper A1 n c1 fs w2 hr2 hn hb).mono ?_
  rintro e w3 ⟨rfl, hb3⟩
  have hb13 := below_seq hb12 hb3 hb12.size
  have hr3 := hr2.after hb3
  have hrw3 := hr.after hb13
  cases hp : proper fs
  · clear hr hr2 hr3 hb hrw2 hrw3
    go_wp2_with fail
    refine (works_any _).mono ?_
    rintro e w' ⟨rfl, hb⟩
    go_wp2_with fail
    go_ret
    exact ⟨rfl, below_seq hb13 hb hb13.size⟩
  · obtain ⟨hsm, h20⟩ := proper_parts hp
    have hgood : goodRun false fs = true := by
      simp only [proper, Bool.and_eq_true] at hp
      exact hp.1
    have hn20 : n ≤ 20 := by rw [← hl.out]; exact h20
    have hwf : ∀ f ∈ fs, wfF f := fun f hf => ⟨(hr3.2 f hf).1.len, hsm f hf⟩
    obtain ⟨ms, hst, hkeys⟩ := stream_ok _ fs (Nat.le_refl _) hwf hgood
    have hle := encs_le hwf
    rw [hl.out] at hle
    have HS := Lib.hid (⟨hst, hkeys, hsm, hwf⟩ : _ ∧ _ ∧ _ ∧ _)
    have HR := Lib.hid hrw3
    clear hr hr2 hb hrw2 hrw3 hsm h20 hp hgood hwf hst hkeys
    go_wp2_with fail
    refine (spec_Frames A1 n c1 fs w3 hr3 hn20 HS.out.2.2.1).mono ?_
    rintro e w4 ⟨A4, n4, c4, rfl, ho4, hb4⟩
    have hb14 := below_seq hb13 hb4 hb13.size
    have hr4 := HR.out.after hb4
    clear hr3
    go_wp2_with fail
    refine (FormatFrames A n c fs w4 hr4 hn20 HS.out.2.2.1).mono ?_
    rintro e w5 ⟨A5, n5, c5, rfl, ho5, hb5⟩
    have hb15 := below_seq hb14 hb5 hb14.size
    have hw5 := ho4.rb.after hb5
    have hn4 : n4 ≤ 1009 * 20 := by have := ho4.len; omega
    clear hr4 HR
    go_wp2_with fail
    refine (ParseFrames A4 n4 c4 _ ms true w5 hw5 (by omega) HS.out.1).mono ?_
    rintro e w6 ⟨hyes, _, hb6⟩
    obtain ⟨FA, fc, os, rfl, hof, hbf, hko⟩ := hyes rfl
    have hb16 := below_seq hb15 hb6 hb15.size
    have hkeq : os.map keyOf = fs.map keyOf := by rw [hko, HS.out.2.1]
    have hol : os.length = n := by have := congrArg List.length hkeq; have h2 := hl.out; simp only [List.length_map] at this; omega
    rw [hol] at hof ⊢
    have hencs := encs_of_keys os fs hkeq (fun f hf => (hbf f hf).len) (fun f hf => (HS.out.2.2.2 f hf).1)
    obtain ⟨hro, hfc⟩ := FrS.of_own hof (fun f hf => ⟨(hbf f hf).rb, (hbf f hf).cap.1⟩)
    have hosm : ∀ f ∈ os, f.n ≤ 1000 := fun f hf => by
      have h1 : keyOf f ∈ fs.map keyOf := by rw [← hkeq]; exact List.mem_map.2 ⟨f, hf, rfl⟩
      obtain ⟨g, hg, e⟩ := List.mem_map.1 h1
      simp only [keyOf, Prod.mk.injEq] at e
      have h2 := (HS.out.2.2.2 g hg)
      have h3 := (hbf f hf).len
      rw [← e.2.2, h2.1] at h3
      have := h2.2
      omega
    have s4 := fun (V : World) (hV : Below w6.heap.size w6 V) => run_strB (c := c4) ((hw5.after hb6).after hV)
    have s5 := fun (V : World) (hV : Below w6.heap.size w6 V) => run_strB (c := c5) ((ho5.rb.after hb6).after hV)
    have HE := Lib.hid hencs
    have HRO := Lib.hid hro
    have HO := Lib.hid hosm
    have HS4 := Lib.hid s4
    have HS5 := Lib.hid s5
    clear hof hbf hko hkeq hol hencs hro hosm ho4 hw5 ho5 hb4 hb5 s4 s5
    go_wp2_with fail
    have hro' : FrS w6.drew w6.drew.heap.size FA n os := HRO.out.after (Below.refl _ _).drew
    have hn47 : n ≤ 2147483647 := by omega
    have S_of : ∀ V, Below w6.heap.size w6 V → (convert 22 9 (.slice A4 n4 c4)).run Try.prog V = .ok (.string ⟨(encs fs).toArray⟩) V ∧ (convert 22 9 (.slice A5 n5 c5)).run Try.prog V = .ok (.string ⟨(encs fs).toArray⟩) V := fun V hV => ⟨HS4.out V hV, HS5.out V hV⟩
    refine wp_region_held_drew (S := (fun V => (convert 22 9 (.slice A4 n4 c4)).run Try.prog V = .ok (.string ⟨(encs fs).toArray⟩) V ∧ (convert 22 9 (.slice A5 n5 c5)).run Try.prog V = .ok (.string ⟨(encs fs).toArray⟩) V)) (by kernel_rfl) (S_of _ (Below.refl _ _).drew) (fun hHeld => ?_)
    refine wpAnyH_take (i := 0) (v := ?_) (by simp only [List.getElem?_toArray, List.getElem?_cons_zero]; rfl) (by kernel_rfl) (by kernel_rfl) (by kernel_rfl) (by exact fun _ _ _ h => h) (Or.inl ⟨by rfl, ?_⟩) (by assumption) ?_
    rotate_left
    · intro w hSw
      try dsimp only at hSw
      go_simp
      try with_reducible rfl
    try go_frame
    refine wpAnyH_take (i := 1) (v := ?_) (by simp only [List.getElem?_toArray, List.getElem?_cons_zero, List.getElem?_cons_succ]; rfl) (by kernel_rfl) (by kernel_rfl) (by kernel_rfl) (by exact fun _ _ _ h => h) (Or.inl ⟨by rfl, ?_⟩) (by assumption) ?_
    rotate_left
    · intro w hSw
      try dsimp only at hSw
      go_simp
      try with_reducible rfl
    try go_frame
    refine wpAnyH_take (i := 2) (v := ?_) (by simp only [List.getElem?_toArray, List.getElem?_cons_zero, List.getElem?_cons_succ]; rfl) (by kernel_rfl) (by kernel_rfl) (by kernel_rfl) (by exact fun _ _ _ h => h) (Or.inl ⟨by rfl, ?_⟩) (by assumption) ?_
    rotate_left
    · intro w hSw
      try dsimp only at hSw
      go_simp
      try with_reducible rfl
    try go_frame
    refine wpAnyH_take (i := 3) (v := ?_) (by simp only [List.getElem?_toArray, List.getElem?_cons_zero, List.getElem?_cons_succ]; rfl) (by kernel_rfl) (by kernel_rfl) (by kernel_rfl) (by exact fun _ _ _ h => h) (Or.inl ⟨by rfl, ?_⟩) (by assumption) ?_
    rotate_left
    · intro w hSw
      try dsimp only at hSw
      go_simp
      try with_reducible rfl
    try go_frame
    refine wpAnyH_take (i := 4) (v := ?_) (by simp only [List.getElem?_toArray, List.getElem?_cons_zero, List.getElem?_cons_succ]; rfl) (by kernel_rfl) (by kernel_rfl) (by kernel_rfl) (by exact fun _ _ _ h => h) (Or.inl ⟨by rfl, ?_⟩) (by assumption) ?_
    rotate_left
    · intro w hSw
      try dsimp only at hSw
      go_simp
      try with_reducible rfl
    try go_frame
    refine wpAnyH_take (i := 5) (v := ?_) (by simp only [List.getElem?_toArray, List.getElem?_cons_zero, List.getElem?_cons_succ]; rfl) (by kernel_rfl) (by kernel_rfl) (by kernel_rfl) (by exact fun _ _ _ h => h) (Or.inl ⟨by rfl, ?_⟩) (by assumption) ?_
    rotate_left
    · intro w hSw
      try dsimp only at hSw
      go_simp
      try with_reducible rfl
    try go_frame
    refine wpAnyH_take (i := 6) (v := ?_) (by simp only [List.getElem?_toArray, List.getElem?_cons_zero, List.getElem?_cons_succ]; rfl) (by kernel_rfl) (by kernel_rfl) (by kernel_rfl) (by exact fun _ _ _ h => h) (Or.inl ⟨by rfl, ?_⟩) (by assumption) ?_
    rotate_left
    · intro w hSw
      try dsimp only at hSw
      go_simp
      try with_reducible rfl
    try go_frame
    refine wpAnyH_take (i := 7) (v := ?_) (by simp only [List.getElem?_toArray, List.getElem?_cons_zero, List.getElem?_cons_succ]; rfl) (by kernel_rfl) (by kernel_rfl) (by kernel_rfl) (by exact fun _ _ _ h => h) (Or.inl ⟨by rfl, ?_⟩) (by assumption) ?_
    rotate_left
    · intro w hSw
      try dsimp only at hSw
      go_simp
      try with_reducible rfl
    try go_frame
    refine wpAnyH_take (i := 8) (v := ?_) (by simp only [List.getElem?_toArray, List.getElem?_cons_zero, List.getElem?_cons_succ]; rfl) (by kernel_rfl) (by kernel_rfl) (by kernel_rfl) (by exact fun _ _ _ h => h) (Or.inl ⟨by rfl, ?_⟩) (by assumption) ?_
    rotate_left
    · intro w hSw
      try dsimp only at hSw
      go_simp
      try with_reducible rfl
    try go_frame
    refine wpAnyH_take (i := 9) (v := ?_) (by simp only [List.getElem?_toArray, List.getElem?_cons_zero, List.getElem?_cons_succ]; rfl) (by kernel_rfl) (by kernel_rfl) (by kernel_rfl) (by exact fun _ _ _ h => h) (Or.inl ⟨by rfl, ?_⟩) (by assumption) ?_
    rotate_left
    · intro w hSw
      try dsimp only at hSw
      go_simp
      try with_reducible rfl
    try go_frame
    refine wpAnyH_take (i := 10) (v := ?_) (by simp only [List.getElem?_toArray, List.getElem?_cons_zero, List.getElem?_cons_succ]; rfl) (by kernel_rfl) (by kernel_rfl) (by kernel_rfl) (by exact fun _ _ _ h => h) (Or.inl ⟨by rfl, ?_⟩) (by assumption) ?_
    rotate_left
    · intro w hSw
      try dsimp only at hSw
      go_simp
      try with_reducible rfl
    try go_frame
    refine wpAnyH_take (i := 11) (v := ?_) (by simp only [List.getElem?_toArray, List.getElem?_cons_zero, List.getElem?_cons_succ]; rfl) (by kernel_rfl) (by kernel_rfl) (by kernel_rfl) (by exact fun _ _ _ h => h) (Or.inl ⟨by rfl, ?_⟩) (by assumption) ?_
    rotate_left
    · intro w hSw
      try dsimp only at hSw
      go_simp
      try with_reducible rfl
    try go_frame
    refine wpAnyH_take (i := 12) (v := ?_) (by simp only [List.getElem?_toArray, List.getElem?_cons_zero, List.getElem?_cons_succ]; rfl) (by kernel_rfl) (by kernel_rfl) (by kernel_rfl) (by exact fun _ _ _ h => h) (Or.inl ⟨by rfl, ?_⟩) (by assumption) ?_
    rotate_left
    · intro w hSw
      try dsimp only at hSw
      go_simp
      try with_reducible rfl
    try go_frame
    refine wpAnyH_take (i := 13) (v := ?_) (by simp only [List.getElem?_toArray, List.getElem?_cons_zero, List.getElem?_cons_succ]; rfl) (by kernel_rfl) (by kernel_rfl) (by kernel_rfl) (by exact fun _ _ _ h => h) (Or.inl ⟨by rfl, ?_⟩) (by assumption) ?_
    rotate_left
    · intro w hSw
      try dsimp only at hSw
      go_simp
      try with_reducible rfl
    try go_frame
    refine wpAnyH_take (i := 14) (v := ?_) (by simp only [List.getElem?_toArray, List.getElem?_cons_zero, List.getElem?_cons_succ]; rfl) (by kernel_rfl) (by kernel_rfl) (by kernel_rfl) (by exact fun _ _ _ h => h) (Or.inl ⟨by rfl, ?_⟩) (by assumption) ?_
    rotate_left
    · intro w hSw
      try dsimp only at hSw
      go_simp
      try with_reducible rfl
    try go_frame
    refine wpAnyH_take (i := 15) (v := ?_) (by simp only [List.getElem?_toArray, List.getElem?_cons_zero, List.getElem?_cons_succ]; rfl) (by kernel_rfl) (by kernel_rfl) (by kernel_rfl) (by exact fun _ _ _ h => h) (Or.inl ⟨by rfl, ?_⟩) (by assumption) ?_
    rotate_left
    · intro w hSw
      try dsimp only at hSw
      go_simp
      try with_reducible rfl
    try go_frame
    refine wpAnyH_take (i := 16) (v := ?_) (by simp only [List.getElem?_toArray, List.getElem?_cons_zero, List.getElem?_cons_succ]; rfl) (by kernel_rfl) (by kernel_rfl) (by kernel_rfl) (by exact fun _ _ _ h => h) (Or.inl ⟨by rfl, ?_⟩) (by assumption) ?_
    rotate_left
    · intro w hSw
      try dsimp only at hSw
      go_simp
      try with_reducible rfl
    try go_frame
    refine wpAnyH_take (i := 17) (v := ?_) (by simp only [List.getElem?_toArray, List.getElem?_cons_zero, List.getElem?_cons_succ]; rfl) (by kernel_rfl) (by kernel_rfl) (by kernel_rfl) (by exact fun _ _ _ h => h) (Or.inl ⟨by rfl, ?_⟩) (by assumption) ?_
    rotate_left
    · intro w hSw
      try dsimp only at hSw
      go_simp
      try with_reducible rfl
    try go_frame
    refine wpAnyH_take (i := 18) (v := ?_) (by simp only [List.getElem?_toArray, List.getElem?_cons_zero, List.getElem?_cons_succ]; rfl) (by kernel_rfl) (by kernel_rfl) (by kernel_rfl) (by exact fun _ _ _ h => h) (Or.inl ⟨by rfl, ?_⟩) (by assumption) ?_
    rotate_left
    · intro w hSw
      try dsimp only at hSw
      go_simp
      try with_reducible rfl
    try go_frame
    refine wpAnyH_take (i := 19) (v := ?_) (by simp only [List.getElem?_toArray, List.getElem?_cons_zero, List.getElem?_cons_succ]; rfl) (by kernel_rfl) (by kernel_rfl) (by kernel_rfl) (by exact fun _ _ _ h => h) (Or.inl ⟨by rfl, ?_⟩) (by assumption) ?_
    rotate_left
    · intro w hSw
      try dsimp only at hSw
      go_simp
      try with_reducible rfl
    try go_frame
    refine wpAnyH_take (i := 23) (v := ?_) (by simp only [List.getElem?_toArray, List.getElem?_cons_zero, List.getElem?_cons_succ]; rfl) (by kernel_rfl) (by kernel_rfl) (by kernel_rfl) (by exact fun _ _ _ h => h) (Or.inl ⟨by rfl, ?_⟩) (by assumption) ?_
    rotate_left
    · intro w hSw
      try dsimp only at hSw
      go_simp
      try with_reducible rfl
    try go_frame
    refine wpAnyH_take (i := 24) (v := ?_) (by simp only [List.getElem?_toArray, List.getElem?_cons_zero, List.getElem?_cons_succ]; rfl) (by kernel_rfl) (by kernel_rfl) (by kernel_rfl) (by exact fun _ _ _ h => h) (Or.inl ⟨by rfl, ?_⟩) (by assumption) ?_
    rotate_left
    · intro w hSw
      try dsimp only at hSw
      go_simp
      try with_reducible rfl
    try go_frame
    refine wpAnyH_ready (rs := [20]) (by kernel_rfl) (by simp) ?_
    refine AllReadyH.cons (by simp only [List.getElem?_toArray, List.getElem?_cons_zero, List.getElem?_cons_succ]; rfl) (fun K hK => ?_) AllReadyH.nil
    go_simp
    (go_at_call 19)
    refine (frames FA n fc os w6.drew hro' hn47).mono ?_
    rintro e w7 ⟨A7, c7, rfl, ho7, hb7⟩
    have hb67 : Below w6.heap.size w6 w7 := (Below.refl _ w6).drew.trans hb7
    have hr7 := FrS.of_own ho7 (HRO.out.2.after hb67)
    try go_wp2_with fail
    refine hK.out _ _ (S_of _ hb67) (fun hHeld => ?_)
    clear hK K
    try go_frame
    refine wpAnyH_ready (rs := [21]) (by kernel_rfl) (by simp) ?_
    refine AllReadyH.cons (by simp only [List.getElem?_toArray, List.getElem?_cons_zero, List.getElem?_cons_succ]; rfl) (fun K hK => ?_) AllReadyH.nil
    go_simp
    (go_at_call 21)
    refine (spec_Frames A7 n c7 os _ hr7.1 hn20 HO.out).mono ?_
    rintro e w8 ⟨A8, n8, c8, rfl, ho8, hb8⟩
    have hb68 : Below w6.heap.size w6 w8 := below_seq hb67 hb8 hb67.size
    rw [HE.out] at ho8
    have s8 := run_strB (c := c8) ho8.rb
    try go_wp2_with fail
    refine hK.out _ _ (S_of _ hb68) (fun hHeld => ?_)
    clear hK K
    try go_frame
    refine wpAnyH_ready (rs := [22]) (by kernel_rfl) (by simp) ?_
    refine AllReadyH.cons (by simp only [List.getElem?_toArray, List.getElem?_cons_zero, List.getElem?_cons_succ]; rfl) (fun K hK => ?_) AllReadyH.nil
    go_simp
    refine hK.out _ _ (S_of _ hb68) (fun hHeld => ?_)
    clear hK K
    try go_frame
    refine wpAnyH_take (i := 25) (v := ?_) (by simp only [List.getElem?_toArray, List.getElem?_cons_zero, List.getElem?_cons_succ]; rfl) (by kernel_rfl) (by kernel_rfl) (by kernel_rfl) (by exact fun _ _ _ h => h) (Or.inl ⟨by rfl, ?_⟩) (by assumption) ?_
    rotate_left
    · intro w hSw
      try dsimp only at hSw
      go_simp
      try with_reducible rfl
    try go_frame
    refine wpAnyH_take (i := 26) (v := ?_) (by simp only [List.getElem?_toArray, List.getElem?_cons_zero, List.getElem?_cons_succ]; rfl) (by kernel_rfl) (by kernel_rfl) (by kernel_rfl) (by exact fun _ _ _ h => h) (Or.inl ⟨by rfl, ?_⟩) (by assumption) ?_
    rotate_left
    · intro w hSw
      try dsimp only at hSw
      go_simp
      try with_reducible rfl
    try go_frame
    refine wpAnyH_take (i := 27) (v := ?_) (by simp only [List.getElem?_toArray, List.getElem?_cons_zero, List.getElem?_cons_succ]; rfl) (by kernel_rfl) (by kernel_rfl) (by kernel_rfl) (by exact fun _ _ _ h => h) (Or.inl ⟨by rfl, ?_⟩) (by assumption) ?_
    rotate_left
    · intro w hSw
      try dsimp only at hSw
      go_simp
      try with_reducible rfl
    try go_frame
    refine wpAnyH_ready (rs := [28]) (by kernel_rfl) (by simp) ?_
    refine AllReadyH.cons (by simp only [List.getElem?_toArray, List.getElem?_cons_zero, List.getElem?_cons_succ]; rfl) (fun K hK => ?_) AllReadyH.nil
    go_simp
    (go_at_call 10)
    refine (works_any _).mono ?_
    rintro e w9 ⟨rfl, hb9⟩
    have hb69 : Below w6.heap.size w6 w9 := below_seq hb68 hb9 hb68.size
    try go_wp2_with fail
    refine hK.out _ _ (S_of _ hb69) (fun hHeld => ?_)
    clear hK K
    try go_frame
    refine wpAnyH_take (i := 29) (v := ?_) (by simp only [List.getElem?_toArray, List.getElem?_cons_zero, List.getElem?_cons_succ]; rfl) (by kernel_rfl) (by kernel_rfl) (by kernel_rfl) (by exact fun _ _ _ h => h) (Or.inl ⟨by rfl, ?_⟩) (by assumption) ?_
    rotate_left
    · intro w hSw
      try dsimp only at hSw
      go_simp
      try with_reducible rfl
    try go_frame
    refine wpAnyH_take (i := 30) (v := ?_) (by simp only [List.getElem?_toArray, List.getElem?_cons_zero, List.getElem?_cons_succ]; rfl) (by kernel_rfl) (by kernel_rfl) (by kernel_rfl) (by exact fun _ _ _ h => h) (Or.inl ⟨by rfl, ?_⟩) (by assumption) ?_
    rotate_left
    · intro w hSw
      try dsimp only at hSw
      go_simp
      try with_reducible rfl
    try go_frame
    refine wpAnyH_done (by kernel_rfl) ?_ _
    go_wp2_with fail
    go_ret
    exact ⟨rfl, below_seq hb16 hb69 hb16.size⟩

theorem FnFrames_any (hr : FrS w w.heap.size A n fs) (hn : n ≤ maxLen) (hb : ∀ f ∈ fs, f.n ≤ maxLen) :
    Calls Try.prog 7 #[.slice A n c] w fun e w' => e = .returned (.bool true) ∧ Below w.heap.size w w' := by
  cases h : (decide (n ≤ 2147483647) && fs.all small)
  · exact fr_small A n c fs w hr hn hb h
  · obtain ⟨h1, h2⟩ := fits_parts h
    exact fr_main A n c fs w hr h1 h2 h
end
end Go.Proofs.Ytkpcepdalegmmaa
