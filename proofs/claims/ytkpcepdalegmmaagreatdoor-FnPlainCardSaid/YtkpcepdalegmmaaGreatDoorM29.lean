/- Parts of a proof, laid behind one another: PLAIN: Open. PLAIN: PlainSecurityOf. Frames: what ParseFrames holds. -/
import Derived.Test.YtkpcepdalegmmaaGreatDoorM28
import Derived.Test.YtkpcepdalegmmaaGreatDoorM19
/-! PLAIN: Open. -/
namespace Go.Proofs.YtkpcepdalegmmaaGreatDoor
open Go.RowKit

theorem MapIs.putAs_ {w : World} {B n : Nat} {D : DataW Unit} (h : MapIs w B n D) (hn : n < 1000) (kv : Kv) (hk : kv.key.size ≤ 100) (hv : kv.val.size ≤ 300) :
    ∃ w', (Instr.mapUpdate 55 (.map (some B)) (.string kv.key) (.string kv.val)).run Tryz.prog w = .ok () w' ∧ MapIs w' B (n + 1) (putX D kv) ∧ w.grownBy w' (some B) := by
  have hvs : kv.val.size ≤ maxLen := by unfold maxLen; omega
  exact World.ownsMap.update h strKeyed Tryz.underlying55 (by unfold maxLen; omega) (key_lit kv.key hk) (plainElem_string Tryz.u_string hvs)
theorem putTwo : putX (putX (.map []) ⟨stS, reqS⟩) ⟨idS, ⟨#[]⟩⟩ = mdX reqK := by rfl
theorem idConv (w : World) : (convert 59 9 (.slice none 0 0)).run Tryz.prog w = .ok (.string ⟨#[]⟩) w := by kernel_rfl
set_option maxRecDepth 100000 in
theorem idStr (w : World) : Calls Tryz.prog 23 #[.slice none 0 0] w fun e w' => e = .returned (.string ⟨#[]⟩) ∧ w' = w := by
  have hc := idConv w
  go_enter Tryz.func23, Tryz.ntmps23
  go_wp2_with fail
  go_ret
  exact ⟨rfl, rfl⟩
/-- What 'Open' leaves: the connection's block, and what the pipe holds. -/
def OpenOk (p sc K : Nat) (u q : List UInt8) (w : World) (e : Ending) (w' : World) : Prop :=
  ∃ cn B m1 m3 m2 IA' n' c' OA' on' oc', e = .returned (.tuple #[.pointer (some ⟨cn, 0, none⟩), .nilIface]) ∧ Cli p sc cn m1 B K (.map (some m3)) m2 true (.slice none 0 0) (.slice none 0 0) IA' n' c' [] OA' on' oc' (greetM 3 0 (padTo [80, 76, 65, 73, 78]) 0 ++ cmdF helloS (helloL u q) ++ cmdF initS (encKVs reqK)) w' ∧ Apart [p, sc] w w'
set_option maxRecDepth 100000 in
set_option maxHeartbeats 4000000 in
theorem openOk (p sc K : Nat) (UA PA : Option Addr) (nu cu np cp : Nat) (u q : List UInt8) (IA : Option Addr) (n c : Nat) (w : World)
    (hp : Blk w p 36 #[.slice IA n c, .slice none 0 0]) (hsc : Blk w sc 70 #[.slice UA nu cu, .slice PA np cp]) (hin : RB w K IA n (greetM 3 0 (padTo [80, 76, 65, 73, 78]) 1 ++ serverIn)) (hnc : n ≤ c ∧ n ≤ 1000000) (hor : K ≤ p ∧ p < sc) (hu : RB w sc UA nu u) (hq : RB w sc PA np q) (hun : ∀ ad, UA = some ad → ad.block ≠ p) (hqn : ∀ ad, PA = some ad → ad.block ≠ p) (hnu : nu ≤ 255) (hnp : np ≤ 255) :
    Calls Tryz.prog 11 #[.iface 34 (.pointer (some ⟨p, 0, none⟩)), .iface 68 (.pointer (some ⟨sc, 0, none⟩)), .string ⟨#[82, 69, 81]⟩, .slice none 0 0, .bool false, .nilFunc] w (OpenOk p sc K u q w) := by
  have hmm : ∀ t W, (Instr.makeMap t none).run Tryz.prog W = .ok (.map (some W.heap.size)) (W.alloc (.map #[] 0)) := fun _ _ => rfl
  have hl := hsc.lt
  go_enter Tryz.func11, Tryz.ntmps11
  go_wp2_with fail
  have hm0 : MapIs (((w.alloc (.map #[] 0)).alloc (.map #[] 0)).alloc (.cells (pcells p sc w.heap.size (.map none) (.map (some (w.heap.size + 1))) false) 65)) w.heap.size 0 (.map []) := World.ownsMap.alloc (World.ownsMap.alloc (World.ownsMap_made w Tryz.prog 9 (plainElem Tryz.prog 9)) _) _
  have hb0 : Below w.heap.size w (((w.alloc (.map #[] 0)).alloc (.map #[] 0)).alloc (.cells (pcells p sc w.heap.size (.map none) (.map (some (w.heap.size + 1))) false) 65)) := (((Below.refl _ w).alloc (Nat.le_refl _) _).alloc (by simp) _).alloc (by simp; omega) _
  have hc0 := Blk.new ((w.alloc (.map #[] 0)).alloc (.map #[] 0)) 65 (pcells p sc w.heap.size (.map none) (.map (some (w.heap.size + 1))) false)
  rw [World.size_alloc, World.size_alloc] at hc0
  show Code.wp _ _ _ _ (((w.alloc (.map #[] 0)).alloc (.map #[] 0)).alloc (.cells (pcells p sc w.heap.size (.map none) (.map (some (w.heap.size + 1))) false) 65))
  generalize ((w.alloc (.map #[] 0)).alloc (.map #[] 0)).alloc (.cells (pcells p sc w.heap.size (.map none) (.map (some (w.heap.size + 1))) false) 65) = V0 at *
  obtain ⟨v1, hr1, hm1, hg1⟩ := (hm0.apart (ps := []) (Apart.refl _ _).drew (by simp)).putAs_ (by decide) ⟨stS, reqS⟩ (by decide) (by decide)
  have hr1' : (Instr.mapUpdate 55 (.map (some w.heap.size)) (.string ⟨#[83, 111, 99, 107, 101, 116, 45, 84, 121, 112, 101]⟩) (.string ⟨#[82, 69, 81]⟩)).run Tryz.prog V0.drew = .ok () v1 := hr1
  generalize hcn : w.heap.size + 1 + 1 = cn at *
  have hc1 := hc0.drew.grown hg1 (by simp; omega)
  have a5 : V0.cell? ⟨cn, 5, none⟩ = some (.map (some w.heap.size)) := hc0.cell 5
  have a0 : V0.cell? ⟨cn, 0, none⟩ = some (.string ⟨#[82, 69, 81]⟩) := hc0.cell 0
  have b5 : v1.cell? ⟨cn, 5, none⟩ = some (.map (some w.heap.size)) := hc1.cell 5
  have b0 : v1.cell? ⟨cn, 0, none⟩ = some (.string ⟨#[82, 69, 81]⟩) := hc1.cell 0
  have hs1 : V0.heap.size ≤ v1.heap.size := hg1.size
  go_region_held3 (fun V => V.cell? ⟨cn, 5, none⟩ = some (.map (some w.heap.size)) ∧ V.cell? ⟨cn, 0, none⟩ = some (.string ⟨#[82, 69, 81]⟩)) ((first | exact ⟨a5, a0⟩ | exact ⟨b5, b0⟩)) (fail)
  all_goals
    rename_i aK _
    refine aK _ _ ?_
    clear aK hr1 hr1' a5 a0 b5 b0
    go_wp2_with fail
  obtain ⟨v2, hr2, hm2, hg2⟩ := (hm1.apart (ps := []) (Apart.refl _ _).drew (by simp)).putAs_ (by decide) ⟨idS, ⟨#[]⟩⟩ (by decide) (by decide)
  have hr2' : (Instr.mapUpdate 55 (.map (some w.heap.size)) (.string ⟨#[73, 100, 101, 110, 116, 105, 116, 121]⟩) (.string ⟨#[]⟩)).run Tryz.prog v1.drew = .ok () v2 := hr2
  have hc2 := hc1.drew.grown hg2 (by simp; omega)
  have a5 : v1.cell? ⟨cn, 5, none⟩ = some (.map (some w.heap.size)) := hc1.cell 5
  have a1 : v1.cell? ⟨cn, 1, none⟩ = some (.slice none 0 0) := hc1.cell 1
  have b5 : v2.cell? ⟨cn, 5, none⟩ = some (.map (some w.heap.size)) := hc2.cell 5
  have b1 : v2.cell? ⟨cn, 1, none⟩ = some (.slice none 0 0) := hc2.cell 1
  have hs2 : v1.heap.size ≤ v2.heap.size := hg2.size
  go_region_held3 (fun V => V.cell? ⟨cn, 5, none⟩ = some (.map (some w.heap.size)) ∧ V.cell? ⟨cn, 1, none⟩ = some (.slice none 0 0)) ((first | exact ⟨a5, a1⟩ | exact ⟨b5, b1⟩))
    (first
      | (go_at_call 23
         refine (idStr _).mono ?_
         rintro e w' ⟨rfl, rfl⟩))
  all_goals
    rename_i aK _
    refine aK _ _ ?_
    clear aK hr2 hr2' a5 a1 b5 b1
    have hb2 : Below w.heap.size w v2 := ((hb0.drew.grown hg1 hb0.size (fun k hk => by cases hk; exact Nat.le_refl _)).drew).grown hg2 (Nat.le_trans hb0.size hs1) (fun k hk => by cases hk; exact Nat.le_refl _)
    have hm2' : MapIs v2 w.heap.size 2 (mdX reqK) := by rw [← putTwo]; exact hm2
    have f7 := (hc2.alloc (.map #[] 0)).frozen 7
    have a7 : (v2.alloc (.map #[] 0)).cell? ⟨cn, 7, none⟩ = some (.map none) := (hc2.alloc _).cell 7
    have hb3 : Below w.heap.size w ((v2.setCell ⟨cn, 7, none⟩ (.map (some v2.heap.size))).alloc (.map #[] 0)) := (below_setN (o := 7) hb2 (by omega) _).alloc (by rw [World.size_setCell]; have := hb2.size; omega) _
    have hc3 : Blk ((v2.setCell ⟨cn, 7, none⟩ (.map (some v2.heap.size))).alloc (.map #[] 0)) cn 65 (pcells p sc w.heap.size (.map (some v2.heap.size)) (.map (some (w.heap.size + 1))) false) := (hc2.set_ 7 _).alloc _
    have ha3 : Apart [cn] v2 ((v2.setCell ⟨cn, 7, none⟩ (.map (some v2.heap.size))).alloc (.map #[] 0)) := ((Apart.refl _ _).setN (.inl (by simp)) _).alloc _
    have hm13 : MapIs ((v2.setCell ⟨cn, 7, none⟩ (.map (some v2.heap.size))).alloc (.map #[] 0)) w.heap.size 2 (mdX reqK) := hm2'.apart ha3 (by simp; omega)
    have hcl : cn < v2.heap.size := hc2.lt
    have hm33 : MapIs ((v2.setCell ⟨cn, 7, none⟩ (.map (some v2.heap.size))).alloc (.map #[] 0)) v2.heap.size 0 (.map []) := by
      have h := World.ownsMap_made (H := Unit) (v2.setCell ⟨cn, 7, none⟩ (.map (some v2.heap.size))) Tryz.prog 9 (plainElem Tryz.prog 9)
      rw [World.size_setCell] at h
      exact h
    have hC3 : Cli p sc cn w.heap.size (v2.heap.size + 1) K (.map (some v2.heap.size)) (.map (some (w.heap.size + 1))) false (.slice UA nu cu) (.slice PA np cp) IA n c (greetM 3 0 (padTo [80, 76, 65, 73, 78]) 1 ++ serverIn) none 0 0 [] ((v2.setCell ⟨cn, 7, none⟩ (.map (some v2.heap.size))).alloc (.map #[] 0)) :=
      ⟨hc3, hsc.after hb3 (Nat.le_refl _), hp.after hb3 (Nat.le_refl _), hin.below (hb3.mono (by omega)), hnc, OB.nil_ _ _, by rw [World.size_alloc, World.size_setCell]; omega⟩
    have hu3 : RB ((v2.setCell ⟨cn, 7, none⟩ (.map (some v2.heap.size))).alloc (.map #[] 0)) sc UA nu u := hu.below (hb3.mono (by omega))
    have hq3 : RB ((v2.setCell ⟨cn, 7, none⟩ (.map (some v2.heap.size))).alloc (.map #[] 0)) sc PA np q := hq.below (hb3.mono (by omega))
    have H3 := Lib.hid (⟨hC3, hm13, hm33, hu3, hq3, hb3⟩ : _ ∧ _ ∧ _ ∧ _ ∧ _ ∧ _)
    have hs3 : w.heap.size + 3 ≤ v2.heap.size := by have := hb0.size; omega
    clear hC3 hm13 hm33 hu3 hq3 hb3 hc3 ha3 hm2' hb2 hm2 hm1 hm0 hb0 hc0 hc1 hc2 hg1 hg2 hu hq hin hp hsc
    go_wp2_with fail
    refine (initOk p sc cn w.heap.size v2.heap.size (v2.heap.size + 1) K (.map (some (w.heap.size + 1))) _ UA PA nu cu np cp u q IA n c _ H3.out.1 H3.out.2.1 H3.out.2.2.1 ⟨hl, by omega, hcl, by omega⟩ H3.out.2.2.2.1 H3.out.2.2.2.2.1 hun hqn hnu hnp).mono ?_
    rintro e w4 ⟨rfl, IA4, n4, c4, OA4, on4, oc4, hC4, hk4⟩
    have hF : OpenOk p sc K u q w (.returned (.tuple #[.pointer (some ⟨cn, 0, none⟩), .nilIface])) w4 := by
      refine ⟨cn, _, _, _, _, _, _, _, _, _, _, rfl, hC4, ?_⟩
      have hb3 := H3.out.2.2.2.2.2
      exact ⟨hk4.os.trans hb3.os, hk4.tape.trans hb3.tape, hk4.output.trans hb3.output, Nat.le_trans hb3.size hk4.size, fun i hi hn => (hk4.block i (by omega) (fun hm => by
        simp at hm hn
        omega)).trans (hb3.block i hi)⟩
    have HF := Lib.hid hF
    clear hC4 hk4 hF
    go_wp2_with fail
    go_ret2
    exact HF.out
end Go.Proofs.YtkpcepdalegmmaaGreatDoor

/-! PLAIN: PlainSecurityOf. -/
namespace Go.Proofs.YtkpcepdalegmmaaGreatDoor
open Go.RowKit

theorem ofStr_runZ (s : ByteArray) (w : World) : ∃ c w', (convert 9 23 (.string s)).run Tryz.prog w = .ok (.slice (some ⟨w.heap.size, 0, none⟩) s.size c) w' ∧ RB w' w'.heap.size (some ⟨w.heap.size, 0, none⟩) s.size s.data.toList ∧ w.grownBy w' none := by
  have hr := run_bytes_of_string (P := Tryz.prog) w 9 23 5 s Tryz.u_string Tryz.u_bytes Tryz.u_u8
  refine ⟨_, _, hr, ⟨by simp, fun hn => ⟨_, rfl, by simp, fun j u hu => ?_⟩⟩, grownBy_alloc (grownBy_drew (grownBy_refl w none)) _⟩
  have hj : j < s.data.size := by
    have := (List.getElem?_eq_some_iff.1 hu).1
    simpa using this
  have hb := bytesRow_at s (grownCap w s.size 0 5) j hj
  rw [bv_get (by simpa using hj)] at hu
  have hc := World.cell?_alloc_mark w.drew (bytesRow s (grownCap w s.size 0 5)) 5 ((bytesRow s (grownCap w s.size 0 5)).size, (bytesRow s (grownCap w s.size 0 5)).size + 1) j
  rw [← hu]
  have e : (⟨w.heap.size, 0, none⟩ : Addr).add j = ⟨w.heap.size, j, none⟩ := by rw [Addr.add_lit]; simp
  rw [e]
  refine hc.trans (hb.trans ?_)
  simp
/-- What 'PlainSecurityOf' makes. -/
def SecOk (U P : ByteArray) (w : World) (e : Ending) (w' : World) : Prop :=
  ∃ sc ub pb cu cp, e = .returned (.iface 68 (.pointer (some ⟨sc, 0, none⟩))) ∧ Blk w' sc 70 #[.slice (some ⟨ub, 0, none⟩) U.size cu, .slice (some ⟨pb, 0, none⟩) P.size cp] ∧ RB w' sc (some ⟨ub, 0, none⟩) U.size U.data.toList ∧ RB w' sc (some ⟨pb, 0, none⟩) P.size P.data.toList ∧ w.heap.size ≤ sc ∧ w.heap.size ≤ ub ∧ w.heap.size ≤ pb ∧ Below w.heap.size w w'
set_option maxRecDepth 100000 in
theorem secOf (U P : ByteArray) (w : World) : Calls Tryz.prog 12 #[.string U, .string P] w (SecOk U P w) := by
  obtain ⟨cu, w1, hr1, hb1, hg1⟩ := ofStr_runZ U w
  obtain ⟨cp, w2, hr2, hb2, hg2⟩ := ofStr_runZ P w1
  go_enter Tryz.func12, Tryz.ntmps12
  go_wp2_with fail
  have h1 : Below w.heap.size w w1 := below_of_grownBy hg1
  have h2 : Below w1.heap.size w1 w2 := below_of_grownBy hg2
  have h3 : Below w2.heap.size w2 (w2.alloc (.cells #[.slice (some ⟨w.heap.size, 0, none⟩) U.size cu, .slice (some ⟨w1.heap.size, 0, none⟩) P.size cp] 70)) := (Below.refl _ _).alloc (Nat.le_refl _) _
  have h13 := below_seq h2 h3 h2.size
  have hF : SecOk U P w (.returned (.iface 68 (.pointer (some ⟨w2.heap.size, 0, none⟩)))) (w2.alloc (.cells #[.slice (some ⟨w.heap.size, 0, none⟩) U.size cu, .slice (some ⟨w1.heap.size, 0, none⟩) P.size cp] 70)) :=
    ⟨w2.heap.size, w.heap.size, w1.heap.size, cu, cp, rfl, Blk.new _ _ _, (hb1.below h13).more h2.size, hb2.below h3, Nat.le_trans h1.size h2.size, Nat.le_refl _, h1.size, below_seq h1 h13 h1.size⟩
  go_ret
  exact hF
end Go.Proofs.YtkpcepdalegmmaaGreatDoor

/-! Frames: what ParseFrames holds. -/
namespace Go.Proofs.YtkpcepdalegmmaaGreatDoor
open Go.RowKit

/-- A stream of messages: read to its end (true), or ended within a message. -/
inductive Stream : List UInt8 → List (List Fr) → Bool → Prop
  | nil : Stream [] [] true
  | msg (inb rest : List UInt8) (fs : List Fr) (ms : List (List Fr)) (ok : Bool) (hm : Msgs rest true inb fs true) (h : Stream rest ms ok) : Stream inb (fs :: ms) ok
  | bad (inb rest : List UInt8) (fs : List Fr) (hne : inb ≠ []) (hm : Msgs rest true inb fs false) : Stream inb [] false

theorem encF_two (f : Fr) : 2 ≤ (encF f).length := by
  by_cases h : 255 < f.n
  · rw [encF_long h]; simp
  · rw [encF_short h]; simp
theorem Msgs.le {rest inb : List UInt8} {m ok : Bool} {fs : List Fr} (h : Msgs rest m inb fs ok) (hk : ok = true) : rest.length ≤ inb.length ∧ (m = true → rest.length + 2 ≤ inb.length) := by
  induction h with
  | done => exact ⟨Nat.le_refl _, fun h => by cases h⟩
  | cut f rem hw hc => cases hk
  | step f rem fs ok hw h ih =>
    have := ih hk
    have h2 := encF_two f
    rw [List.length_append]
    exact ⟨by omega, fun _ => by omega⟩

theorem Stream.head {inb : List UInt8} {ms : List (List Fr)} {ok : Bool} (h : Stream inb ms ok) (hne : inb ≠ []) :
    ∃ rest fs okm, Msgs rest true inb fs okm ∧ ((okm = true → ∃ ms', ms = fs :: ms' ∧ Stream rest ms' ok) ∧ (okm = false → ok = false)) := by
  cases h with
  | nil => exact absurd rfl hne
  | msg _ rest fs ms2 _ hm h => exact ⟨rest, fs, true, hm, fun _ => ⟨ms2, rfl, h⟩, fun h => by cases h⟩
  | bad _ rest fs hne2 hm => exact ⟨rest, fs, false, hm, (fun h => by cases h), fun _ => rfl⟩
theorem Msgs.count {rest inb : List UInt8} {m ok : Bool} {fs : List Fr} (h : Msgs rest m inb fs ok) (hk : ok = true) : rest.length + 2 * fs.length ≤ inb.length := by
  induction h with
  | done => simp
  | cut f rem hw hc => cases hk
  | step f rem fs ok hw h ih =>
    have := ih hk
    have h2 := encF_two f
    rw [List.length_append, List.length_cons]
    omega

/-- What one message gives: whether it is a command, whether more follows, the body. -/
def keyOf (f : Fr) : Bool × Bool × List UInt8 := (f.cmd, f.more, f.body)
def keysOf (fs : List Fr) : List (Bool × Bool × List UInt8) := (List.range fs.length).map fun i => (fs.any Fr.cmd, decide (i + 1 < fs.length), (fs.map (·.body)).getD i [])
def keysAll (ms : List (List Fr)) : List (Bool × Bool × List UInt8) := ms.flatMap keysOf

theorem own_own_ne {w : World} {b1 b2 s1 s2 n1 n2 c1 c2 : Nat} {t1 t2 : TypeId} {A1 A2 : Option Addr} {x1 x2 : List Value} (h1 : w.ownsRow b1 t1 s1 (.slice A1 n1 c1) n1 x1) (h2 : w.ownsRow b2 t2 s2 (.slice A2 n2 c2) n2 x2) (hne : t1 ≠ t2) :
    ∀ ad, A1 = some ad → some ad.block ≠ A2.map (·.block) := by
  intro ad e he
  subst e
  rcases h1.2 with ⟨hv, _⟩ | ⟨g1, cap1, cur1, hv1, _, hh1, _⟩
  · cases hv
  · injection hv1 with hA1
    injection hA1 with hA1
    subst hA1
    cases A2 with
    | none => cases he
    | some a2 =>
      rcases h2.2 with ⟨hv, _⟩ | ⟨g2, cap2, cur2, hv2, _, hh2, _⟩
      · cases hv
      · injection hv2 with hA2
        injection hA2 with hA2
        subst hA2
        simp at he
        subst he
        exact Blk.ne_ (t := t1) (t' := t2) hh1 hh2 hne rfl
theorem own_kept {w w' : World} {b s n c : Nat} {t : TypeId} {A : Option Addr} {xs : List Value} {row : Option Nat} (h : w.ownsRow b t s (.slice A n c) n xs) (hg : w.grownBy w' row) (hne : ∀ ad, A = some ad → some ad.block ≠ row) : w'.ownsRow b t s (.slice A n c) n xs := by
  refine ⟨h.1, ?_⟩
  rcases h.2 with h2 | ⟨g, cap, cur, e, hb, hh, r⟩
  · exact .inl h2
  · injection e with hA _ hc
    subst hA
    subst hc
    exact .inr ⟨g, c, cur, rfl, hb, (hg.block g (Array.getElem?_eq_some_iff.1 hh).1 (hne _ rfl)).trans hh, r⟩
theorem own_apart {w w' : World} {b s n c : Nat} {t : TypeId} {A : Option Addr} {xs : List Value} {ps : List Nat} (h : w.ownsRow b t s (.slice A n c) n xs) (ha : Apart ps w w') (hne : ∀ ad, A = some ad → ad.block ∉ ps) : w'.ownsRow b t s (.slice A n c) n xs :=
  ha.own h fun g hg => by
    cases A with
    | none => cases hg
    | some ad =>
      simp only [Value.ownBlock, Option.some.injEq] at hg
      rw [← hg]
      exact hne ad rfl
theorem own_blk_ne' {w : World} {b s n c g : Nat} {t T : TypeId} {A : Option Addr} {xs : List Value} {cs : Array Value} (h : w.ownsRow b t s (.slice A n c) n xs) (hb : Blk w g T cs) (hne : t ≠ T) : ∀ ad, A = some ad → ad.block ≠ g := by
  intro ad e hg
  have := own_blk_ne h hb hne
  subst e
  exact this (by simp [Value.ownBlock, hg])
end Go.Proofs.YtkpcepdalegmmaaGreatDoor
