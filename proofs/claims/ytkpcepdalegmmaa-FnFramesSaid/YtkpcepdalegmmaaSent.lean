/- Frames: impl.sent. -/
import Derived.Test.YtkpcepdalegmmaaSend3
import Derived.Test.YtkpcepdalegmmaaFnFc
import Derived.Deep.RegionLaw
namespace Go.Proofs.Ytkpcepdalegmmaa
open Go.RowKit

/-- Where 'sent' stands. -/
structure SentSt (w : World) (p cn on oc : Nat) (ob : List UInt8) (OA : Option Addr) (wr : World) : Prop where
  pipe : Blk wr p 77 #[.slice none 0 0, .slice OA on oc]
  own : OB wr (cn + 1) OA on oc ob
  conn : IsConn wr cn p
  pc : w.heap.size ≤ p ∧ p < cn
  ap : Below w.heap.size w wr
section
variable {w wr : World} {p cn on oc : Nat} {ob : List UInt8} {OA : Option Addr}
theorem SentSt.below_ (h : SentSt w p cn on oc ob OA wr) {w2 : World} (hb : Below wr.heap.size wr w2) : SentSt w p cn on oc ob OA w2 :=
  ⟨h.pipe.after hb (Nat.le_refl _), h.own.below_ hb, h.conn.after hb (Nat.le_refl _), h.pc, below_seq h.ap hb h.ap.size⟩
theorem SentSt.far (h : SentSt w p cn on oc ob OA wr) {k : Nat} (hk : wr.heap.size ≤ k) : k ∉ sendBlocks p OA := by
  have := h.pipe.lt
  intro hm
  simp only [sendBlocks, List.mem_cons, Option.mem_toList, Option.map_eq_some_iff] at hm
  rcases hm with rfl | ⟨ad, e, rfl⟩
  · omega
  · have := (h.own.block e).2
    omega
theorem SentSt.low (h : SentSt w p cn on oc ob OA wr) : ∀ k ∈ sendBlocks p OA, w.heap.size ≤ k ∧ k ≠ cn := by
  have h1 := h.pc
  have h2 := h.conn.lt
  intro k hm
  simp only [sendBlocks, List.mem_cons, Option.mem_toList, Option.map_eq_some_iff] at hm
  rcases hm with rfl | ⟨ad, e, rfl⟩
  · omega
  · have := (h.own.block e).1
    omega
theorem SentSt.next (h : SentSt w p cn on oc ob OA wr) {w2 : World} {add : List UInt8} {e : Ending} (hs : Sent wr (cn + 1) p on (.slice none 0 0) OA ob add e w2) : ∃ OA' oc', SentSt w p cn (on + add.length) oc' (ob ++ add) OA' w2 := by
  obtain ⟨_, OA', on', oc', hp, ho, rfl, ha⟩ := hs
  exact ⟨OA', oc', hp, ho, h.conn.apart ha (fun hm => (h.low _ hm).2 rfl), h.pc, h.ap.trans (ha.below h.ap.size fun k hk => (h.low k hk).1)⟩
end

theorem Sent.ap {w w' : World} {base p on : Nat} {iv : Value} {OA : Option Addr} {ob add : List UInt8} {e : Ending} (h : Sent w base p on iv OA ob add e w') : Apart (sendBlocks p OA) w w' := by
  obtain ⟨_, _, _, _, _, _, _, h⟩ := h
  exact h

/-- What 'sent' answers. -/
def SentAll (w : World) (l : List UInt8) (e : Ending) (w' : World) : Prop :=
  ∃ A n c, e = .returned (.tuple #[.slice A n c, .nilIface]) ∧ OB w' w.heap.size A n c l ∧ Below w.heap.size w w'

set_option maxRecDepth 100000 in
set_option maxHeartbeats 8000000 in
theorem sent (A : Option Addr) (n c : Nat) (fs : List Fr) (w : World) (hr : FrS w w.heap.size A n fs) (hn : n ≤ 20) (hb : ∀ f ∈ fs, f.n ≤ 1000) :
    Calls Try.prog 45 #[.slice A n c] w (SentAll w (encs fs)) := by
  go_enter Try.func45, Try.ntmps45
  go_wp2_with fail
  refine (ZZNull _).mono ?_
  rintro e w2 ⟨rfl, rfl⟩
  go_wp2_with fail
  refine (ZZConn w.heap.size _).mono ?_
  rintro e w2 ⟨cn, rfl, hcn, hconn, hb2⟩
  rw [World.size_alloc] at hcn
  have hbA : Below w.heap.size w w2 := below_new hb2
  have hp := (Blk.new w 77 #[.slice none 0 0, .slice none 0 0]).after hb2 (Nat.le_refl _)
  have hS : SentSt w w.heap.size cn 0 0 [] none w2 := ⟨hp, OB.nil_ _ _, hconn, ⟨Nat.le_refl _, hcn⟩, hbA⟩
  have hrw := hr.after hbA
  have HS0 := Lib.hid hS
  have HR := Lib.hid hr
  have HB := Lib.hid hb
  obtain ⟨p, hpe⟩ : ∃ p, p = w.heap.size := ⟨_, rfl⟩
  rw [← hpe] at HS0 ⊢
  clear hS hconn hb2 hbA hp hcn hr hrw hpe hb
  go_wp2_with fail
  go_loopw [16] (fun i wr => ∃ (k on oc : Nat) (OA : Option Addr), k ≤ n ∧ i = .int .i64 k ∧ on ≤ 1009 * k ∧ Hid (SentSt w p cn on oc (encs (fs.take k)) OA wr)) (fun i _ => n - (intOf i).toNat)
  case atStart => exact ⟨0, 0, 0, none, Nat.zero_le _, rfl, by omega, HS0⟩
  case round =>
    obtain ⟨k, on, oc, OA, hk, rfl, hon, hS⟩ := hrel
    by_cases hkn : k < n
    · obtain ⟨ad, f, rfl, hadb, hf, h1, h2, h3⟩ := (HR.out.after hS.out.ap).at_ hkn
      have hfm := List.mem_of_getElem? hf
      have hbod := (HR.out.after hS.out.ap).2 f hfm
      have hfn := HB.out f hfm
      have hfl : f.body.length = f.n := hbod.1.len
      obtain ⟨cmd, more, fA, fn, fc, body⟩ := f
      simp only at h1 h2 h3 hfn hbod hfl
      have henc : encs (fs.take (k + 1)) = encs (fs.take k) ++ (headF cmd more fn ++ body) := by
        have hk2 : k < fs.length := by rw [HR.out.len]; exact hkn
        rw [List.take_succ_eq_append_getElem hk2, (List.getElem?_eq_some_iff.1 hf).2]
        simp [encs, encF]
      have hlen : (headF cmd more fn ++ body).length ≤ 1009 := encF_le (f := ⟨cmd, more, fA, fn, fc, body⟩) ⟨hfl, hfn⟩
      have HE := Lib.hid henc
      have HL := Lib.hid hlen
      have HB2 := Lib.hid hbod
      clear henc hlen hf hfm hfl hbod
      go_wp2_with fail
      clear h1 h2 h3
      have hW : Below wr.heap.size wr (wr.alloc (.cells #[.bool cmd, .bool more, .slice fA fn fc] 71)) := (Below.refl _ wr).alloc (Nat.le_refl _) _
      have hH := Blk.new wr 71 #[.bool cmd, .bool more, .slice fA fn fc]
      have hrb := HB2.out.1.after hW
      have hS2 := Lib.hid (hS.out.below_ hW)
      generalize wr.alloc (.cells #[.bool cmd, .bool more, .slice fA fn fc] 71) = W at *
      have S_of : ∀ V, Below W.heap.size W V → V.cell? ⟨wr.heap.size, 0, none⟩ = some (.bool cmd) ∧ V.cell? ⟨wr.heap.size, 2, none⟩ = some (.slice fA fn fc) ∧ V.cell? ⟨wr.heap.size, 1, none⟩ = some (.bool more) := fun V hV =>
        ⟨(hH.after hV (Nat.le_refl _)).cell 0, (hH.after hV (Nat.le_refl _)).cell 2, (hH.after hV (Nat.le_refl _)).cell 1⟩
      have hHW := hH.lt
      have hwH := Lib.hid (hS.out.far (Nat.le_refl wr.heap.size))
      clear hW hH HB2
      go_region_held3 (fun V => V.cell? ⟨wr.heap.size, 0, none⟩ = some (.bool cmd) ∧ V.cell? ⟨wr.heap.size, 2, none⟩ = some (.slice fA fn fc) ∧ V.cell? ⟨wr.heap.size, 1, none⟩ = some (.bool more))
        ((first | exact S_of _ (Below.refl _ _).drew | exact S_of _ ((Below.refl _ _).drew.alloc (Nat.le_refl _) _) | exact S_of _ (by assumption) | assumption))
        (first
          | (with_reducible refine st_at 26 ?_
             refine st_appB rfl (.tmp 23) (.tmp 25) 22 rfl W.heap.size _ 0 0 [] rfl (OB.lit0 _ _ (Nat.le_refl _)) _ _ _ rfl (srcB (hrb.drew.new _)) fn (Nat.zero_add _) (by omega) (by simp) ?_
             intro A5 c5 w5 ho5 hg5 ha5
             have hb5 : Below W.heap.size W w5 := ((Below.refl _ _).drew.alloc (Nat.le_refl _) _).grown hg5 (by simp) (fun k hk => by cases hk; exact Nat.le_refl _))
          | (go_at_call 63
             refine (ZZSend cmd more cn p (cn + 1) on oc fn c5 (.slice none 0 0) OA A5 (encs (fs.take k)) body w5 (hS2.out.below_ hb5).pipe (hS2.out.below_ hb5).own ho5.rb hfn (by omega) (hS2.out.below_ hb5).conn hS2.out.pc.2 (by omega) (hS2.out.below_ hb5).conn.lt
               (fun ad e => by have h1 := ho5.block e; have h2 := hS2.out.far h1.1; simp only [sendBlocks, List.mem_cons, Option.mem_toList, not_or] at h2; exact ⟨h2.1, fun e2 => h2.2 e2.symm⟩)).mono ?_
             intro e w6 hs6
             obtain rfl := hs6.1
             have HS6 := Lib.hid ((hS2.out.below_ hb5).next hs6)
             have hap := hs6.ap
             have s6 : w6.cell? ⟨wr.heap.size, 0, none⟩ = some (.bool cmd) ∧ w6.cell? ⟨wr.heap.size, 2, none⟩ = some (.slice fA fn fc) ∧ w6.cell? ⟨wr.heap.size, 1, none⟩ = some (.bool more) := by
               have s5 := S_of w5 hb5
               have hlt : wr.heap.size < w5.heap.size := Nat.lt_of_lt_of_le hHW hb5.size
               have hn := hwH.out
               exact ⟨(hap.cell (p := ⟨wr.heap.size, 0, none⟩) hlt hn).trans s5.1, (hap.cell (p := ⟨wr.heap.size, 2, none⟩) hlt hn).trans s5.2.1, (hap.cell (p := ⟨wr.heap.size, 1, none⟩) hlt hn).trans s5.2.2⟩
             clear hs6 hap))
      rename_i aK _
      refine aK _ _ ?_
      clear S_of s6 ho5 hg5 ha5 hb5 hrb hHW hS hS2
      go_wp2_with fail
      go_roundw
      case rel =>
        obtain ⟨OA', oc', h6⟩ := HS6.out
        exact ⟨k + 1, on + (headF cmd more fn ++ body).length, oc', OA', by omega, by go_num, by have := HL.out; omega, Lib.hid (by rw [HE.out]; exact h6)⟩
      case measure => simp [intOf]; omega
    · have hkn' : k = n := by omega
      have hfull : fs.take k = fs := List.take_of_length_le (by rw [HR.out.len]; omega)
      rw [hfull] at hS
      subst hkn'
      have c1 := hS.out.pipe.cell 1
      simp only [List.getElem?_toArray, List.getElem?_cons_zero, List.getElem?_cons_succ] at c1
      clear hfull
      go_wp2_with fail
      go_ret2
      have h6 := hS.out
      exact ⟨OA, on, oc, rfl, h6.own.more (by have := h6.pc; omega), h6.ap⟩
end Go.Proofs.Ytkpcepdalegmmaa
