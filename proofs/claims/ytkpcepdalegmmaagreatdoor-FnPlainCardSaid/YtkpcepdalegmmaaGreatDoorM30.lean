/- Parts of a proof, laid behind one another: Frames: impl.ParseFrames$1. -/
import Derived.Test.YtkpcepdalegmmaaGreatDoorM29
import Derived.Deep.RegionLaw
/-! Frames: impl.ParseFrames$1. -/
namespace Go.Proofs.YtkpcepdalegmmaaGreatDoor
open Go.RowKit

/-- Where ParseFrames stands. -/
structure PfSt (w : World) (pl pk p cn : Nat) (rem : List UInt8) (os : List Fr) (FA : Option Addr) (fc : Nat) (IA : Option Addr) (n c : Nat) (wr : World) : Prop where
  pipe : Blk wr p 36 #[.slice IA n c, .slice none 0 0]
  inb : RB wr wr.heap.size IA n rem
  nc : n ≤ c ∧ n ≤ 2147483647
  off : ∀ ad, IA = some ad → w.heap.size ≤ ad.block ∧ ad.block < p
  conn : IsConn wr cn p
  pc : w.heap.size ≤ p ∧ p < cn
  lst : Blk wr pl 44 #[.slice FA os.length fc]
  kk : Blk wr pk 4 #[.bool false]
  own : wr.ownsRow (cn + 1) 48 3 (.slice FA os.length fc) os.length (cellsOf os)
  bods : ∀ f ∈ os, OB wr (cn + 1) f.A f.n f.c f.body
  ap : Apart [pl] w wr
section
variable {w : World} {pl pk p cn : Nat} {rem : List UInt8} {os : List Fr} {FA : Option Addr} {fc : Nat} {IA : Option Addr} {n c : Nat} {wr : World}
theorem PfSt.read (h : PfSt w pl pk p cn rem os FA fc IA n c wr) (hpl : pl < w.heap.size) (hpk : pk < w.heap.size) {w2 : World} {IA' : Option Addr} {n' c' : Nat} {rest : List UInt8} (hp : Blk w2 p 36 #[.slice IA' n' c', .slice none 0 0]) (hr : RB w2 wr.heap.size IA' n' rest)
    (hc : n' ≤ c') (hn : n' ≤ n) (hz : ∀ ad, IA' = some ad → w.heap.size ≤ ad.block ∧ ad.block < p) (hcn : IsConn w2 cn p) (ha : Apart [p] wr w2) : PfSt w pl pk p cn rest os FA fc IA' n' c' w2 := by
  have hpc := h.pc
  have hw := h.ap.size
  refine ⟨hp, hr.more ha.size, ⟨hc, by have := h.nc.2; omega⟩, hz, hcn, hpc, ha.blk h.lst (by simp; omega), ha.blk h.kk (by simp; omega), own_apart h.own ha (fun ad e hm => ?_), fun f hf => ?_, h.ap.via ha (fun i hi hm => by simp at hm; omega)⟩
  · simp at hm
    exact own_blk_ne' h.own h.pipe (by decide) ad e hm
  · exact own_apart (h.bods f hf) ha (fun ad e hm => by
      simp at hm
      exact own_blk_ne' (h.bods f hf) h.pipe (by decide) ad e hm)
theorem PfSt.below_ (h : PfSt w pl pk p cn rem os FA fc IA n c wr) {w2 : World} (hb : Below wr.heap.size wr w2) : PfSt w pl pk p cn rem os FA fc IA n c w2 :=
  ⟨h.pipe.after hb (Nat.le_refl _), h.inb.after hb, h.nc, h.off, h.conn.after hb (Nat.le_refl _), h.pc, h.lst.after hb (Nat.le_refl _), h.kk.after hb (Nat.le_refl _), ownsRow_below h.own hb, fun f hf => ownsRow_below (h.bods f hf) hb, h.ap.trans (Apart.of_below hb)⟩
theorem PfSt.push (h : PfSt w pl pk p cn rem os FA fc IA n c wr) (hpl : pl < w.heap.size) (hpk : pk < w.heap.size) (hne : pl ≠ pk) {w3 w4 : World} {f : Fr} {cs : Array Value} {T : TypeId} {FA2 : Option Addr} {fc2 : Nat} (hb : Below wr.heap.size wr w3) (hob : OB w3 wr.heap.size f.A f.n f.c f.body)
    (hg : (w3.alloc (.cells cs T)).grownBy w4 (FA.map (·.block))) (ho : w4.ownsRow (cn + 1) 48 3 (.slice FA2 (os.length + 1) fc2) (os.length + 1) (cellsOf os ++ f.cells)) :
    PfSt w pl pk p cn rem (os ++ [f]) FA2 fc2 IA n c (w4.setCell ⟨pl, 0, none⟩ (.slice FA2 (os.length + 1) fc2)) := by
  have hcn := h.conn.lt
  have hpc := h.pc
  have h3 := h.below_ hb
  have hlen : (os ++ [f]).length = os.length + 1 := by simp
  have hrow : ∀ g, FA.map (·.block) = some g → cn + 1 ≤ g := fun g hg => own_base h.own hg
  have hne' : ∀ k, k < cn + 1 → some k ≠ FA.map (·.block) := fun k hk e => by have := hrow k e.symm; omega
  have hsz := hg.size
  rw [World.size_alloc] at hsz
  have hs3 := hb.size
  have hw := h.ap.size
  rw [cellsOf_snoc] at ho
  have hob' : OB w3 (cn + 1) f.A f.n f.c f.body := hob.more (by omega)
  refine ⟨((h3.pipe.alloc _).grown hg (hne' _ (by omega))).farN (by omega) _, ?_, h.nc, h.off, ((h3.conn.alloc _).grown hg (hne' _ (by omega))).farN (by omega) _, hpc, ?_, ((h3.kk.alloc _).grown hg (hne' _ (by omega))).farN (Ne.symm hne) _, ?_, ?_, ?_⟩
  · refine ⟨h3.inb.1, fun h0 => ?_⟩
    obtain ⟨ad, e, hbl, hc⟩ := h3.inb.2 h0
    have hz := h.off ad e
    refine ⟨ad, e, by rw [World.size_setCell]; omega, fun j u hu => ?_⟩
    rw [World.cell?_setCell_other _ _ _ _ (fun e2 => by have e3 := congrArg Addr.block e2; rw [block_of_add] at e3; simp only at e3; omega)]
    refine (World.cell?_of_block (hg.block _ (by rw [block_of_add]; simp; omega) (fun e2 => ?_))).trans ((World.cell?_of_block (Below.heap_alloc w3 _ _ (by rw [block_of_add]; omega))).trans (hc j u hu))
    rw [block_of_add] at e2
    exact hne' _ (by omega) e2
  · rw [hlen]
    exact ((h3.lst.alloc _).grown hg (hne' _ (by omega))).set_ 0 _
  · rw [hlen]
    exact ownsRow_setCell_below ho (a := ⟨pl, 0, none⟩) (by simp only; omega) _
  · intro x hx
    have hx3 : OB w3 (cn + 1) x.A x.n x.c x.body := by
      rcases List.mem_append.1 hx with h1 | h1
      · exact h3.bods x h1
      · simp at h1
        subst h1
        exact hob'
    exact OB.setN (own_kept (hx3.alloc (.cells cs T)) hg (fun ad e => own_own_ne hx3 h3.own (by decide) ad e)) (by omega) _
  · refine Apart.setN ?_ (.inl (by simp)) _
    exact ⟨hg.os.trans h3.ap.os, hg.tape.trans h3.ap.tape, hg.output.trans h3.ap.output, by omega, fun i hi hn => (hg.block i (by simp; omega) (hne' i (by omega))).trans ((Below.heap_alloc w3 _ i (by omega)).trans (h3.ap.block i hi hn))⟩
end

theorem PfSt.got {w : World} {pl pk p cn : Nat} {rem : List UInt8} {os : List Fr} {FA : Option Addr} {fc : Nat} {IA : Option Addr} {n c : Nat} {wr w3 w4 : World} {B m fc2 : Nat} {FA2 : Option Addr} {gs : List (Nat × List UInt8)} {cs : Array Value} {T : TypeId} {u : Value}
    (h : PfSt w pl pk p cn rem os FA fc IA n c wr) (hb : Below wr.heap.size wr w3) (hg : (w3.alloc (.cells cs T)).grownBy w4 (FA.map (·.block))) (hB : pl < B) (hG : Got wr B gs ∧ wr.ownsRow B 23 1 (.slice FA2 m fc2) m (gotCells gs)) :
    Got (w4.setCell ⟨pl, 0, none⟩ u) B gs ∧ (w4.setCell ⟨pl, 0, none⟩ u).ownsRow B 23 1 (.slice FA2 m fc2) m (gotCells gs) := by
  have h3 := h.below_ hb
  have g3 : Got w3 B gs := fun x hx => ⟨(hG.1 x hx).1.after hb (Nat.le_refl _), (hG.1 x hx).2⟩
  have o3 := ownsRow_below hG.2 hb
  refine ⟨((g3.alloc (.cells cs T)).grown h3.own (fun x hx => (g3 x hx).1) (by decide) hg).farN hB _, ?_⟩
  exact ownsRow_setCell_below (own_kept (World.ownsRow.alloc o3 (.cells cs T)) hg (fun ad e => own_own_ne o3 h3.own (by decide) ad e)) (a := ⟨pl, 0, none⟩) hB _
theorem keys_snoc {fs : List Fr} {gs : List (Nat × List UInt8)} {os2 : List Fr} {pre : List (Bool × Bool × List UInt8)} {k b m c5 : Nat} {bd : List UInt8} {A5 : Option Addr} (hx : gs[k]? = some (b, bd)) (hmap : gs.map (·.2) = fs.map (·.body)) (hgl : gs.length ≤ 1099511627776)
    (hk : os2.map keyOf = pre ++ (keysOf fs).take k) :
    (os2 ++ [(⟨fs.any Fr.cmd, decide ((k : Int) < IntKind.i64.wrap ((gs.length : Int) - 1)), A5, m, c5, bd⟩ : Fr)]).map keyOf = pre ++ (keysOf fs).take (k + 1) := by
  have hl : gs.length = fs.length := by have := congrArg List.length hmap; simpa using this
  have hkl : k < gs.length := (List.getElem?_eq_some_iff.1 hx).1
  have hw : IntKind.i64.wrap ((gs.length : Int) - 1) = (gs.length : Int) - 1 := by rw [IntKind.wrap_i64]; omega
  have hbd : (fs.map (·.body)).getD k [] = bd := by rw [← hmap, List.getD_eq_getElem?_getD, List.getElem?_map, hx]; rfl
  have hkk : (keysOf fs)[k]? = some (fs.any Fr.cmd, decide (k + 1 < fs.length), bd) := by
    unfold keysOf
    rw [List.getElem?_map, List.getElem?_range (by omega)]
    simp only [Option.map_some, hbd]
  obtain ⟨h1, h2⟩ := List.getElem?_eq_some_iff.1 hkk
  rw [List.map_append, hk, List.append_assoc, List.take_succ_eq_append_getElem h1, h2]
  have hd : decide ((k : Int) < IntKind.i64.wrap ((gs.length : Int) - 1)) = decide (k + 1 < fs.length) := by rw [hw]; exact decide_eq_decide.2 (by omega)
  simp only [List.map_cons, List.map_nil, keyOf, hd]

theorem Msgs.small {rest inb : List UInt8} {m ok : Bool} {fs : List Fr} (h : Msgs rest m inb fs ok) : ∀ f ∈ fs, f.body.length ≤ 1000 := by
  induction h with
  | done => exact fun f hf => by cases hf
  | cut f rem hw hc => exact fun f hf => by cases hf
  | step f rem fs ok hw h ih =>
    intro x hx
    rcases List.mem_cons.1 hx with rfl | h1
    · have := hw.1; have := hw.2; omega
    · exact ih x h1
theorem bd_small {fs : List Fr} {gs : List (Nat × List UInt8)} {k b : Nat} {bd : List UInt8} (hx : gs[k]? = some (b, bd)) (hmap : gs.map (·.2) = fs.map (·.body)) (hs : ∀ f ∈ fs, f.body.length ≤ 1000) : bd.length ≤ 1000 := by
  have : bd ∈ gs.map (·.2) := List.mem_map.2 ⟨_, List.mem_of_getElem? hx, rfl⟩
  rw [hmap] at this
  obtain ⟨f, hf, rfl⟩ := List.mem_map.1 this
  exact hs f hf
/-- What ParseFrames's closure leaves. -/
def Parsed (w : World) (pl pk : Nat) (ms : List (List Fr)) (ok : Bool) (e : Ending) (w' : World) : Prop :=
  e = .returned (.tuple #[]) ∧ ∃ (FA : Option Addr) (fc : Nat) (os : List Fr), Blk w' pl 44 #[.slice FA os.length fc] ∧ Blk w' pk 4 #[.bool ok] ∧ w'.ownsRow w.heap.size 48 3 (.slice FA os.length fc) os.length (cellsOf os) ∧
    (∀ f ∈ os, OB w' w.heap.size f.A f.n f.c f.body) ∧ (ok = true → os.map keyOf = keysAll ms) ∧ Apart [pl, pk] w w'

theorem PfSt.fin {w : World} {pl pk p cn : Nat} {rem : List UInt8} {os : List Fr} {FA : Option Addr} {fc : Nat} {IA : Option Addr} {n c : Nat} {wr : World} {ms : List (List Fr)} (h : PfSt w pl pk p cn rem os FA fc IA n c wr) (_ : pl < w.heap.size) (hpk : pk < w.heap.size) (hne : pl ≠ pk)
    (hk : os.map keyOf = keysAll ms) : Parsed w pl pk ms true (.returned (.tuple #[])) (wr.setCell ⟨pk, 0, none⟩ (.bool true)) := by
  have hpc := h.pc
  refine ⟨rfl, FA, fc, os, h.lst.farN hne _, h.kk.setN _, ownsRow_mono (ownsRow_setCell_below h.own (a := ⟨pk, 0, none⟩) (by simp only; omega) _) (by omega), fun f hf => ((h.bods f hf).setN (by omega) _).more (by omega), fun _ => hk, ?_⟩
  exact (h.ap.mono (fun k _ hk => by simp at hk; simp [hk])).setN (.inl (by simp)) _
theorem PfSt.bad {w : World} {pl pk p cn : Nat} {rem : List UInt8} {os : List Fr} {FA : Option Addr} {fc : Nat} {IA : Option Addr} {n c : Nat} {wr w3 : World} {ms : List (List Fr)} (h : PfSt w pl pk p cn rem os FA fc IA n c wr) (hpl : pl < w.heap.size) (hpk : pk < w.heap.size)
    (ha : Apart [p, cn] wr w3) : Parsed w pl pk ms false (.returned (.tuple #[])) w3 := by
  have hpc := h.pc
  have hcn := h.conn
  obtain ⟨m1, m2, cl, hcb⟩ := hcn
  refine ⟨rfl, FA, fc, os, ha.blk h.lst (by simp; omega), ha.blk h.kk (by simp; omega), ownsRow_mono (own_apart h.own ha (fun ad e hm => ?_)) (by omega), fun f hf => OB.more (own_apart (h.bods f hf) ha (fun ad e hm => ?_)) (by omega), (fun h => by cases h), ?_⟩
  · simp at hm
    have h1 := own_blk_ne' h.own h.pipe (by decide) ad e
    have h2 := own_blk_ne' h.own hcb (by decide) ad e
    omega
  · simp at hm
    have h1 := own_blk_ne' (h.bods f hf) h.pipe (by decide) ad e
    have h2 := own_blk_ne' (h.bods f hf) hcb (by decide) ad e
    omega
  · exact (h.ap.mono (fun k _ hk => by simp at hk; simp [hk])).via ha (fun i hi hm => by simp at hm; omega)

set_option maxRecDepth 100000 in
set_option maxHeartbeats 8000000 in
theorem ParseFrames_f (pd pl pk : Nat) (A : Option Addr) (n c : Nat) (l : List UInt8) (ms : List (List Fr)) (ok : Bool) (w : World) (hr : RB w w.heap.size A n l) (hn : n ≤ 2147483647) (b0 : Blk w pd 23 #[.slice A n c]) (b1 : Blk w pl 44 #[.slice none 0 0]) (b2 : Blk w pk 4 #[.bool false]) (hst : Stream l ms ok) :
    Calls Tryz.prog 25 #[.pointer (some ⟨pd, 0, none⟩), .pointer (some ⟨pl, 0, none⟩), .pointer (some ⟨pk, 0, none⟩)] w (Parsed w pl pk ms ok) := by
  have hpl := b1.lt
  have hpk := b2.lt
  have hne : pl ≠ pk := b1.ne_ b2 (by decide)
  have hd0 := ((b0.alloc (.cells #[] 5))).cell0
  go_enter Tryz.func25, Tryz.ntmps25
  go_wp2_with (first
    | (at_builtin
       refine wpl_appB rfl (.tmp 10) (.tmp 11) 23 rfl w.heap.size _ 0 0 [] rfl (OB.lit0 w _ (Nat.le_refl _)) _ n l rfl (srcB (hr.new _)) n (Nat.zero_add n) (by omega) (by simp) ?_
       intro A1 c1 w1 ho1 hg1 ha1))
  have hb1 : Below w.heap.size w w1 := ((Below.refl _ w).alloc (Nat.le_refl _) _).grown hg1 (by simp) (fun k hk => by cases hk; exact Nat.le_refl _)
  refine (ZZNull _).mono ?_
  rintro e w2 ⟨rfl, rfl⟩
  go_wp2_with fail
  refine (ZZConn w1.heap.size _).mono ?_
  rintro e w2 ⟨cn, rfl, hcn, hconn, hb2⟩
  rw [World.size_alloc] at hcn
  have hS : PfSt w pl pk w1.heap.size cn l [] none 0 A1 n c1 w2 := by
    have hbA : Below w.heap.size w w2 := (hb1.alloc hb1.size _).trans (hb2.mono (by rw [World.size_alloc]; have := hb1.size; omega))
    have hp := (Blk.new w1 36 #[.slice A1 n c1, .slice none 0 0]).after hb2 (Nat.le_refl _)
    refine ⟨hp, (ho1.rb.new _).after hb2, ⟨ho1.cap.1, hn⟩, fun ad e => ?_, hconn, ⟨hb1.size, by omega⟩, b1.after hbA (Nat.le_refl _), b2.after hbA (Nat.le_refl _), World.ownsRow_nil _ _ _ _, (fun f hf => by cases hf), Apart.of_below hbA⟩
    have := ho1.block e
    omega
  have HS0 := Lib.hid hS
  obtain ⟨p, hpe⟩ : ∃ p, p = w1.heap.size := ⟨_, rfl⟩
  rw [← hpe] at HS0 ⊢
  have hp0 := hS.pipe.cell 0
  rw [← hpe] at hp0
  clear hS hconn hb2 hd0 hg1 ha1 ho1 hr b0 b1 b2 hcn hb1 hpe
  go_wp2_with fail
  go_loopw [18] (fun _ wr => ∃ (rem : List UInt8) (todo : List (List Fr)) (os : List Fr) (FA : Option Addr) (fc : Nat) (IA : Option Addr) (n2 c2 : Nat), Hid (Stream rem todo ok ∧ (ok = true → os.map keyOf ++ keysAll todo = keysAll ms)) ∧ os.length + n2 ≤ n ∧ Hid (PfSt w pl pk p cn rem os FA fc IA n2 c2 wr))
    (fun _ wr => inLen ((wr.cell? ⟨p, 0, none⟩).getD undef))
  case atStart => exact ⟨l, ms, [], none, 0, A1, n, c1, Lib.hid ⟨hst, fun _ => rfl⟩, by simp, HS0⟩
  case round =>
    obtain ⟨rem, todo, os, FA, fc, IA, n2, c2, hM, hlen, hS⟩ := hrel
    have q0 := hS.out.pipe.cell 0
    have hl := hS.out.inb.len
    simp only [List.getElem?_toArray, List.getElem?_cons_zero] at q0
    have hnc := hS.out.nc
    have k0 := hS.out.kk.cell 0
    have k1 := hS.out.kk.frozen 0
    simp only [List.getElem?_toArray, List.getElem?_cons_zero] at k0
    by_cases h0 : n2 = 0
    · have hrem : rem = [] := List.eq_nil_of_length_eq_zero (by omega)
      obtain ⟨hst2, hkeys⟩ := hM.out
      subst hrem
      obtain ⟨rfl, rfl⟩ : ok = true ∧ todo = [] := by
        cases hst2 with
        | nil => exact ⟨rfl, rfl⟩
        | msg _ rest fs ms2 _ hm h => have := (hm.le rfl).2 rfl; simp at this
        | bad _ rest fs hne2 hm => exact absurd rfl hne2
      have HK := Lib.hid (hkeys rfl)
      subst h0
      clear hkeys hst2 hM
      go_wp2_with fail
      refine bodyPost_end (results_none rfl _ _ _) rfl ?_
      exact hS.out.fin hpl hpk hne (by have := HK.out; simpa [keysAll] using this)
    · obtain ⟨hst2, hkeys⟩ := hM.out
      have HQ := Lib.hid q0
      have hcw := hS.out.conn.lt
      have hcp : cn ≠ p := by have := hS.out.pc; omega
      have hoff := hS.out.off
      obtain ⟨rest, fs, okm, hMsgs, hcase⟩ := hst2.head (by intro e; subst e; simp at hl; omega)
      have hread := ZZRead (fun b => w.heap.size ≤ b ∧ b < p) p cn IA n2 c2 (.slice none 0 0) rem rest fs okm wr hS.out.pipe hS.out.inb hnc.1 (by omega) ⟨hoff, fun b hb => by omega⟩ hS.out.conn hcp hMsgs
      have HC := Lib.hid hcase
      have HM := Lib.hid hMsgs
      have HKY := Lib.hid hkeys
      clear hst2 hkeys hM hcase hMsgs hoff
      go_wp2_with fail
      refine hread.mono ?_
      rintro e w3 ⟨hyes, hno⟩
      clear hread
      cases okm
      · obtain ⟨⟨v, s, rfl⟩, ha⟩ := hno rfl
        obtain rfl := HC.out.2 rfl
        have hF := hS.out.bad (ms := ms) hpl hpk ha
        clear hyes hno q0
        go_wp2_with fail
        exact bodyPost_ret (results_none rfl _ _ _) rfl hF
      · obtain ⟨IA', n', c', gs, FA2, fc2, rfl, ho, hg, hmap, hp', hr', hc', hn', hoff', hcn', ha⟩ := hyes rfl
        obtain ⟨todo2, rfl, hst3⟩ := HC.out.1 rfl
        clear hyes hno q0
        have hS3 := hS.out.read hpl hpk hp' hr' hc' hn' hoff' hcn' ha
        have hB1 : wr.heap.size ≤ w3.heap.size := ha.size
        obtain ⟨B, hB⟩ : ∃ B, B = wr.heap.size := ⟨_, rfl⟩
        rw [← hB] at ho hg
        have hlenM := HM.out.count rfl
        have hgl : gs.length = fs.length := by have := congrArg List.length hmap; simpa using this
        have hrl := hr'.len
        have HGL := Lib.hid hgl
        clear hgl
        have HI := Lib.hid (⟨hS3, hg, ho⟩ : _ ∧ _ ∧ _)
        have HMAP := Lib.hid hmap
        have hplB : pl < B := by have := hS.out.ap.size; omega
        have hgB : gs.length ≤ 2147483647 := by have := HGL.out; omega
        have HSM := Lib.hid (fun f hf => HM.out.small f hf)
        clear hS3 hg ho hmap hp' hr' hcn' ha hB1 hB k0 k1
        go_wp2_with fail
        go_loopw [34] (fun v wr => ∃ (k : Nat) (os2 : List Fr) (FB : Option Addr) (fb : Nat), v = .int .i64 k ∧ k ≤ gs.length ∧ os2.length = os.length + k ∧ Hid (os2.map keyOf = os.map keyOf ++ (keysOf fs).take k) ∧
            Hid (PfSt w pl pk p cn rest os2 FB fb IA' n' c' wr ∧ Got wr B gs ∧ wr.ownsRow B 23 1 (.slice FA2 gs.length fc2) gs.length (gotCells gs)))
          (fun v _ => gs.length - (intOf v).toNat)
        case atStart => exact ⟨0, os, FA, fc, rfl, Nat.zero_le _, rfl, Lib.hid (by simp), HI⟩
        case round =>
          obtain ⟨k, os2, FB, fb, rfl, hk, hol, hkeys, hI⟩ := hrel
          by_cases hkl : k < gs.length
          · have hS4 := hI.out.1
            obtain ⟨x, hx⟩ : ∃ x, gs[k]? = some x := ⟨gs[k], List.getElem?_eq_getElem hkl⟩
            obtain ⟨b, bd⟩ := x
            have hgb := hI.out.2.1 _ (List.mem_of_getElem? hx)
            obtain ⟨ad, e0, hadb, hcells⟩ := (Reads.of_own hI.out.2.2).2 (by omega)
            subst e0
            have hc0 := hcells k (.slice (some ⟨b, 0, none⟩) bd.length bd.length) (by unfold gotCells; rw [List.getElem?_map, hx]; rfl)
            have l0 := hS4.lst.cell 0
            simp only [List.getElem?_toArray, List.getElem?_cons_zero] at l0
            have l1 := (hS4.lst.drew.alloc (.cells #[] 5)).cell 0
            have l1' : ((wr.alloc (.cells #[] 5)).drew).cell? ⟨pl, 0, none⟩ = _ := (hS4.lst.alloc (.cells #[] 5)).cell 0
            simp only [List.getElem?_toArray, List.getElem?_cons_zero] at l1 l1'
            have HX := Lib.hid hx
            have HGB := Lib.hid hgb
            have HG2 := Lib.hid hI.out.2
            have HS4 := Lib.hid hS4
            have hbw := hgb.1.lt
            have hrb := hgb.1.rb (o := 0) (n := bd.length) (by simp)
            rw [List.drop_zero, List.take_of_length_le (Nat.le_refl _)] at hrb
            have hbd : bd.length ≤ 1000 := bd_small HX.out HMAP.out HSM.out
            have hcnw := hS4.conn.lt
            have hpcw := hS4.pc
            have hos : os2.length ≤ 1099511627775 := by have := HGL.out; omega
            have HOL := Lib.hid hol
            clear hol
            clear hcells hx hgb hS4 HI hI
            go_wp2_with fail
            go_region_law (first
              | (with_reducible refine st_at 48 ?_
                 refine st_appB rfl (.tmp 46) (.tmp 47) 23 rfl wr.heap.size _ 0 0 [] rfl (OB.lit0 _ _ (Nat.le_refl _)) _ _ _ rfl (srcB ((hrb.drew).new _)) bd.length (Nat.zero_add _) (by omega) (by simp) ?_
                 intro A5 c5 w5 ho5 hg5 ha5
                 have hb5 : Below wr.heap.size wr w5 := ((Below.refl _ _).drew.alloc (Nat.le_refl _) _).grown hg5 (by simp) (fun k hk => by cases hk; exact Nat.le_refl _)
                 have l2 := (HS4.out.below_ hb5).lst.cell 0
                 have l3 := ((HS4.out.below_ hb5).lst.alloc (.cells #[.bool (fs.any Fr.cmd), .bool (decide ((k : Int) < IntKind.i64.wrap ((gs.length : Int) - 1))), .slice A5 bd.length c5] 48)).cell 0
                 simp only [List.getElem?_toArray, List.getElem?_cons_zero] at l2 l3)
              | (with_reducible refine st_at 51 ?_
                 refine st_appT rfl elImpl (.tmp 39) (.tmp 50) 44 rfl (cn + 1) _ os2.length _ _ rfl ((HS4.out.below_ hb5).own.alloc _) _ 1 _ rfl (srcNew elImpl (w := w5) #[.bool (fs.any Fr.cmd), .bool (decide ((k : Int) < IntKind.i64.wrap ((gs.length : Int) - 1))), .slice A5 bd.length c5] rfl (Fr.one ⟨fs.any Fr.cmd, decide ((k : Int) < IntKind.i64.wrap ((gs.length : Int) - 1)), A5, bd.length, c5, bd⟩)) (os2.length + 1) rfl (by omega) (by decide) (by have := hb5.size; simp; omega) ?_
                 intro A6 c6 w6 ho6 hg6 ha6
                 have hP := HS4.out.push (f := ⟨fs.any Fr.cmd, decide ((k : Int) < IntKind.i64.wrap ((gs.length : Int) - 1)), A5, bd.length, c5, bd⟩) hpl hpk hne hb5 ho5 hg6 ho6
                 have l4 := (((HS4.out.below_ hb5).lst.alloc (.cells #[.bool (fs.any Fr.cmd), .bool (decide ((k : Int) < IntKind.i64.wrap ((gs.length : Int) - 1))), .slice A5 bd.length c5] 48)).grown hg6 (row_ne HS4.out.own (by omega))).cell 0
                 have l5 := (((HS4.out.below_ hb5).lst.alloc (.cells #[.bool (fs.any Fr.cmd), .bool (decide ((k : Int) < IntKind.i64.wrap ((gs.length : Int) - 1))), .slice A5 bd.length c5] 48)).grown hg6 (row_ne HS4.out.own (by omega))).frozen 0
                 have hG6 := HS4.out.got (u := .slice A6 (os2.length + 1) c6) hb5 hg6 hplB HG2.out
                 have hK6 := keys_snoc (A5 := A5) (m := bd.length) (c5 := c5) HX.out HMAP.out (by omega) hkeys.out
                 simp only [List.getElem?_toArray, List.getElem?_cons_zero] at l4))
            all_goals rename_i aK
            all_goals refine aK _ _ ?_
            all_goals go_wp2_with fail
            all_goals go_roundw
            all_goals first
              | (simp [intOf]; omega)
              | exact ⟨k + 1, _, _, _, by go_num, by omega, by have := HOL.out; simp; omega, Lib.hid hK6, Lib.hid ⟨by simpa using hP, hG6⟩⟩
          · have hkg : k = gs.length := by omega
            have hkeys2 := hkeys.out
            rw [List.take_of_length_le (by have := HGL.out; simp [keysOf]; omega)] at hkeys2
            have hI2 := hI.out.1
            have HY := Lib.hid hkeys2
            have HP := Lib.hid hI2
            clear hkeys hkeys2 hI hI2 HI
            subst hkg
            go_wp2_with fail
            go_roundw
            case rel =>
              exact ⟨rest, todo2, os2, FB, fb, IA', n', c', Lib.hid ⟨hst3, fun h => by rw [HY.out, List.append_assoc]; exact HKY.out h⟩, by have := HGL.out; omega, HP⟩
            case measure =>
              rw [HQ.out, show wr.cell? ⟨p, 0, none⟩ = some (.slice IA' n' c') from HP.out.pipe.cell 0]
              simp only [Option.getD_some, inLen]
              have := (HM.out.le rfl).2 rfl
              omega
end Go.Proofs.YtkpcepdalegmmaaGreatDoor
