/- Parts of a proof, laid behind one another: Frames: proper frames are a stream. PLAIN: what the server answers. -/
import Derived.Test.YtkpcepdalegmmaaGreatDoorM29
import Derived.Test.YtkpcepdalegmmaaGreatDoorM31
/-! Frames: proper frames are a stream. -/
namespace Go.Proofs.YtkpcepdalegmmaaGreatDoor
open Go.RowKit

theorem encs_cons' (f : Fr) (l : List Fr) (p : List UInt8) : encs (f :: l) ++ p = encF f ++ (encs l ++ p) := by simp [encs]
theorem keysOf_cons (f : Fr) (m : List Fr) (hm : m ≠ []) (hc : f.cmd = false) : keysOf (f :: m) = (m.any Fr.cmd, true, f.body) :: keysOf m := by
  have hl : 0 < m.length := List.length_pos_iff.2 hm
  unfold keysOf
  rw [List.length_cons, List.range_succ_eq_map, List.map_cons, List.map_map]
  congr 1
  · simp [hc, hl]
  · apply List.map_congr_left
    intro i _
    simp [hc]

/-- Within a message. -/
theorem goodIn (l : List Fr) (hw : ∀ f ∈ l, wfF f) (h : goodRun true l = true) : ∃ m r, l = m ++ r ∧ m ≠ [] ∧ goodRun false r = true ∧ m.any Fr.cmd = false ∧ m.map keyOf = keysOf m ∧ ∀ p, Msgs (encs r ++ p) true (encs l ++ p) m true := by
  induction l with
  | nil => simp [goodRun] at h
  | cons f l ih =>
    simp only [goodRun, Bool.and_eq_true, Bool.not_eq_true'] at h
    have hc : f.cmd = false := by
      have := h.1
      unfold badF at this
      cases hcm : f.cmd
      · rfl
      · rw [hcm] at this; simp at this
    have hf := hw f (List.mem_cons_self ..)
    cases hm : f.more
    · rw [hm] at h
      refine ⟨[f], l, rfl, by simp, h.2, by simp [hc], by simp [keysOf, keyOf, hc, hm], fun p => ?_⟩
      rw [encs_cons']
      refine Msgs.step f _ [] true hf ?_
      rw [hm]
      exact Msgs.done
    · rw [hm] at h
      obtain ⟨m, r, rfl, hne, hr, hac, hk, hms⟩ := ih (fun x hx => hw x (List.mem_cons_of_mem _ hx)) h.2
      refine ⟨f :: m, r, rfl, by simp, hr, by simp [hc, hac], ?_, fun p => ?_⟩
      · rw [keysOf_cons f m hne hc, List.map_cons, hk, hac]
        simp [keyOf, hc, hm]
      · rw [encs_cons']
        refine Msgs.step f _ m true hf ?_
        rw [hm]
        exact hms p
theorem run_out (f : Fr) (l : List Fr) (hw : ∀ x ∈ f :: l, wfF x) (h : goodRun false (f :: l) = true) : ∃ m r, f :: l = m ++ r ∧ m ≠ [] ∧ goodRun false r = true ∧ m.map keyOf = keysOf m ∧ ∀ p, Msgs (encs r ++ p) true (encs (f :: l) ++ p) m true := by
  simp only [goodRun, Bool.and_eq_true, Bool.not_eq_true'] at h
  have hf := hw f (List.mem_cons_self ..)
  cases hm : f.more
  · rw [hm] at h
    refine ⟨[f], l, rfl, by simp, h.2, by simp [keysOf, keyOf, hm], fun p => ?_⟩
    rw [encs_cons']
    refine Msgs.step f _ [] true hf ?_
    rw [hm]
    exact Msgs.done
  · have hc : f.cmd = false := by
      have := h.1
      unfold badF at this
      cases hcm : f.cmd
      · rfl
      · rw [hcm, hm] at this; simp at this
    rw [hm] at h
    obtain ⟨m, r, rfl, hne, hr, hac, hk, hms⟩ := goodIn l (fun x hx => hw x (List.mem_cons_of_mem _ hx)) h.2
    refine ⟨f :: m, r, rfl, by simp, hr, ?_, fun p => ?_⟩
    · rw [keysOf_cons f m hne hc, List.map_cons, hk, hac]
      simp [keyOf, hc, hm]
    · rw [encs_cons']
      refine Msgs.step f _ m true hf ?_
      rw [hm]
      exact hms p
theorem stream_ok : ∀ (k : Nat) (l : List Fr), l.length ≤ k → (∀ x ∈ l, wfF x) → goodRun false l = true → ∃ ms, Stream (encs l) ms true ∧ l.map keyOf = keysAll ms := by
  intro k
  induction k with
  | zero =>
    intro l hl hw h
    have : l = [] := List.eq_nil_of_length_eq_zero (by omega)
    subst this
    exact ⟨[], Stream.nil, rfl⟩
  | succ k ih =>
    intro l hl hw h
    cases l with
    | nil => exact ⟨[], Stream.nil, rfl⟩
    | cons f l =>
      obtain ⟨m, r, e, hne, hr, hk, hms⟩ := run_out f l hw h
      have hml : 0 < m.length := List.length_pos_iff.2 hne
      rw [e] at hl hw ⊢
      rw [List.length_append] at hl
      obtain ⟨ms, hs, hk2⟩ := ih r (by omega) (fun x hx => hw x (List.mem_append_right _ hx)) hr
      have h1 := hms []
      rw [e, List.append_nil, List.append_nil] at h1
      exact ⟨m :: ms, Stream.msg _ _ _ _ _ h1 hs, by rw [List.map_append, hk, hk2]; simp [keysAll]⟩
end Go.Proofs.YtkpcepdalegmmaaGreatDoor

/-! PLAIN: what the server answers. -/
namespace Go.Proofs.YtkpcepdalegmmaaGreatDoor
open Go.RowKit

theorem OB.nc {w : World} {base n c : Nat} {A : Option Addr} {l : List UInt8} (h : OB w base A n c l) : n ≤ c := by
  rcases h.2 with ⟨h0, _⟩ | ⟨g, cap, cur, hv, _, _, hc, _⟩
  · injection h0 with h1 h2 h3
    omega
  · injection hv with h1 h2 h3
    omega
/-- What 'peer' answers. -/
def PeerOk (w : World) (e : Ending) (w' : World) : Prop :=
  ∃ A n c, e = .returned (.tuple #[.slice A n c, .nilIface]) ∧ OB w' w.heap.size A n c (greetM 3 0 (padTo [80, 76, 65, 73, 78]) 1 ++ serverIn) ∧ Below w.heap.size w w'
set_option maxRecDepth 100000 in
set_option maxHeartbeats 4000000 in
theorem peer (w : World) : Calls Tryz.prog 10 #[] w (PeerOk w) := by
  have hmm : ∀ t W, (Instr.makeMap t none).run Tryz.prog W = .ok (.map (some W.heap.size)) (W.alloc (.map #[] 0)) := fun _ _ => rfl
  go_enter Tryz.func10, Tryz.ntmps10
  go_wp2_with fail
  refine (ZZGreeting 3 0 ⟨#[80, 76, 65, 73, 78]⟩ true _ (by decide)).mono ?_
  rintro e w1 ⟨b, rfl, hbw, hbb, hb1⟩
  have H1 := Lib.hid (⟨hbw, hbb, hb1⟩ : _ ∧ _ ∧ _)
  clear hbw hbb hb1
  go_wp2_with fail
  refine (ZZCommand welcomeS [] none 0 0 _ (by decide) (by decide) RB.nil_).mono ?_
  rintro e w2 ⟨A2, c2, rfl, ho2, hb2⟩
  rw [show (1 + welcomeS.size + 0 : Nat) = 8 from rfl] at ho2 ⊢
  have H2 := Lib.hid (⟨ho2, hb2⟩ : _ ∧ _)
  clear ho2 hb2
  have hm2 : MapIs (w2.alloc (.map #[] 0)) w2.heap.size 0 (.map []) := World.ownsMap_made w2 Tryz.prog 9 (plainElem Tryz.prog 9)
  obtain ⟨w3, hr3, hm3, hg3⟩ := hm2.putAs_ (by decide) ⟨stS, repS⟩ (by decide) (by decide)
  have hr3' : (Instr.mapUpdate 55 (.map (some w2.heap.size)) (.string ⟨#[83, 111, 99, 107, 101, 116, 45, 84, 121, 112, 101]⟩) (.string ⟨#[82, 69, 80]⟩)).run Tryz.prog (w2.alloc (.map #[] 0)) = .ok () w3 := hr3
  have hm3' : MapIs w3 w2.heap.size 1 (mdX repK) := hm3
  have hb3 : Below w2.heap.size w2 w3 := ((Below.refl _ w2).alloc (Nat.le_refl _) (.map #[] 0)).grown hg3 (by simp) (fun k hk => by cases hk; exact Nat.le_refl _)
  have H3 := Lib.hid (⟨hm3', hb3⟩ : _ ∧ _)
  clear hr3 hm2 hm3 hm3' hb3 hg3
  go_wp2_with fail
  refine (MarshalZMTP_ok w2.heap.size 1 repK w3 H3.out.1 (by decide) repGood repUsual).mono ?_
  rintro e w4 ⟨A4, c4, rfl, hr4, hb4⟩
  rw [repLen] at hr4 ⊢
  have H4 := Lib.hid (⟨hr4, hb4⟩ : _ ∧ _)
  clear hr4 hb4 hr3'
  go_wp2_with fail
  refine (ZZCommand readyS (encKVs repK) A4 19 c4 _ (by decide) (by decide) H4.out.1).mono ?_
  rintro e w5 ⟨A5, c5, rfl, ho5, hb5⟩
  rw [show (1 + readyS.size + 19 : Nat) = 25 from rfl] at ho5 ⊢
  have H5 := Lib.hid (⟨ho5, hb5⟩ : _ ∧ _)
  clear ho5 hb5
  go_wp2_with fail
  have hW : Below w5.heap.size w5 (w5.alloc (.cells #[.bool true, .bool false, .slice A2 8 c2, .bool true, .bool false, .slice A5 25 c5] 48)) := (Below.refl _ _).alloc (Nat.le_refl _) _
  have how : (w5.alloc (.cells #[.bool true, .bool false, .slice A2 8 c2, .bool true, .bool false, .slice A5 25 c5] 48)).ownsRow w5.heap.size 48 3 (.slice (some ⟨w5.heap.size, 0, none⟩) 2 2) 2 (cellsOf [⟨true, false, A2, 8, c2, cmdBytes welcomeS []⟩, ⟨true, false, A5, 25, c5, cmdBytes readyS (encKVs repK)⟩]) :=
    ⟨rfl, .inr ⟨w5.heap.size, 2, _, rfl, Nat.le_refl _, heap_alloc_new w5 _, Nat.le_refl _, by unfold maxLen; decide, rfl, rfl⟩⟩
  have h25 : Below w2.heap.size w2 w5 := below_seq (below_seq H3.out.2 H4.out.2 H3.out.2.size) H5.out.2 (Nat.le_trans H3.out.2.size H4.out.2.size)
  have hb1 := H1.out.2.2
  have h12 := H2.out.2
  have r2 : RB w5 w2.heap.size A2 8 (cmdBytes welcomeS []) := H2.out.1.rb.below h25
  have hbd : Bodies (w5.alloc (.cells #[.bool true, .bool false, .slice A2 8 c2, .bool true, .bool false, .slice A5 25 c5] 48)) (w5.alloc (.cells #[.bool true, .bool false, .slice A2 8 c2, .bool true, .bool false, .slice A5 25 c5] 48)).heap.size [⟨true, false, A2, 8, c2, cmdBytes welcomeS []⟩, ⟨true, false, A5, 25, c5, cmdBytes readyS (encKVs repK)⟩] := by
    intro f hf
    simp only [List.mem_cons, List.not_mem_nil, or_false] at hf
    rcases hf with rfl | rfl
    · exact ⟨(r2.more h25.size).new _, H2.out.1.nc⟩
    · exact ⟨H5.out.1.rb.new _, H5.out.1.nc⟩
  have hfr := (FrS.of_own how hbd).1
  have HF := Lib.hid (⟨hW, hfr, h25⟩ : _ ∧ _ ∧ _)
  clear hW how hbd hfr r2
  refine (sent _ 2 2 _ _ HF.out.2.1 (by decide) (by
    intro f hf
    simp only [List.mem_cons, List.not_mem_nil, or_false] at hf
    rcases hf with rfl | rfl <;> simp)).mono ?_
  rintro e w6 ⟨A6, n6, c6, rfl, ho6, hb6⟩
  have h56 : Below w5.heap.size w5 w6 := below_seq HF.out.1 hb6 HF.out.1.size
  have h26 : Below w2.heap.size w2 w6 := below_seq HF.out.2.2 h56 h25.size
  have h16 : Below w1.heap.size w1 w6 := below_seq h12 h26 h12.size
  have h06 : Below w.heap.size w w6 := below_seq hb1 h16 hb1.size
  have hbb6 : BB w6 b 115 (greetM 3 0 (padTo [80, 76, 65, 73, 78]) 1) := BB.after H1.out.2.1 h16 (Nat.le_refl _)
  have hrb := hbb6.rb (o := 0) (n := 64) (by decide)
  rw [List.drop_zero, List.take_of_length_le (by decide)] at hrb
  have hen : encs [⟨true, false, A2, 8, c2, cmdBytes welcomeS []⟩, ⟨true, false, A5, 25, c5, cmdBytes readyS (encKVs repK)⟩] = serverIn := rfl
  rw [hen] at ho6
  have hn6 : n6 = 37 := by rw [← ho6.len]; decide +kernel
  subst hn6
  have HZ := Lib.hid (⟨hrb, ho6, h06⟩ : _ ∧ _ ∧ _)
  clear hen hrb ho6 h06 h16 h26 h56 hbb6 hb1 h12 h25 hb6 hmm
  have hz6 : w.heap.size ≤ w6.heap.size := HZ.out.2.2.size
  go_wp2_with (first
    | (at_builtin
       refine wpl_appB rfl (.tmp 48) (.tmp 49) 23 rfl w6.heap.size _ 0 0 [] rfl (OB.lit0 w6 _ (Nat.le_refl _)) _ 64 _ rfl (srcB (HZ.out.1.new _)) 64 rfl (by omega) (by simp) ?_
       intro A7 c7 w7 ho7 hg7 ha7
       have hb7 : Below w6.heap.size w6 w7 := ((Below.refl _ w6).alloc (Nat.le_refl _) (.cells #[] 5)).grown hg7 (by simp) (fun k hk => by cases hk; exact Nat.le_refl _))
    | (at_builtin
       refine wpl_appB rfl (.tmp 50) (.tmp 51) 23 rfl w6.heap.size _ 64 _ _ rfl ho7 _ 37 _ rfl (srcB (HZ.out.2.1.rb.below hb7)) 101 rfl (by decide) hb7.size ?_
       intro A8 c8 w8 ho8 hg8 ha8))
  have hF : PeerOk w (.returned (.tuple #[.slice A8 101 c8, .nilIface])) w8 := ⟨A8, _, c8, rfl, ho8.more (by omega), below_seq HZ.out.2.2 (hb7.grown hg8 hb7.size (fun k hk => ho7.base_le hk)) hz6⟩
  go_ret2
  exact hF
end Go.Proofs.YtkpcepdalegmmaaGreatDoor
