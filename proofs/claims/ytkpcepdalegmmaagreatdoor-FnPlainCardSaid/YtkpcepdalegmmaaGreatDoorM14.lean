/- Parts of a proof, laid behind one another: PLAIN: (*Conn).read of a short command. Frames: (*ZZPipe).Write, nullSecurity.Encrypt. -/
import Derived.Test.YtkpcepdalegmmaaGreatDoorM07
import Derived.Test.YtkpcepdalegmmaaGreatDoorM09
import Derived.Test.YtkpcepdalegmmaaGreatDoorM10
import Derived.Test.YtkpcepdalegmmaaGreatDoorM13
import Derived.Deep.RegionLaw
import Derived.Test.YtkpcepdalegmmaaGreatDoorM12
/-! PLAIN: (*Conn).read of a short command. -/
namespace Go.Proofs.YtkpcepdalegmmaaGreatDoor
open Go.RowKit

/-- Where the reading of a command stands. -/
structure PrSt (w : World) (p cn sc K : Nat) (sa sb out : Value) (IA : Option Addr) (n c : Nat) (rem hb : List UInt8) (F : Value) (V : World) : Prop where
  pipe : Blk V p 36 #[.slice IA n c, out]
  inb : RB V K IA n rem
  nc : n ≤ c ∧ n ≤ 1099511627776
  conn : PConn V cn p sc sa sb
  res : Blk V w.heap.size 110 nilMsg
  hdr : BB V (w.heap.size + 1) 80 hb
  hl : hb.length = 2
  msg : Blk V (w.heap.size + 1 + 1 + 1) 110 #[F, .int .u8 0, .bool false, .nilIface]
  ap : Apart [p] w V
  old : w.heap.size + 4 ≤ V.heap.size
  low : p < w.heap.size ∧ cn < w.heap.size ∧ sc < w.heap.size ∧ cn ≠ p ∧ sc ≠ p ∧ K ≤ p
section
variable {w : World} {p cn sc K : Nat} {sa sb out : Value} {IA IA' : Option Addr} {n c n' c' : Nat} {rem rem' hb hb' : List UInt8} {F : Value} {V V2 : World}
theorem PrSt.step (h : PrSt w p cn sc K sa sb out IA n c rem hb F V) {ps : List Nat} (ha : Apart ps V V2) (hps : ∀ k ∈ ps, k = p ∨ k = w.heap.size + 1 ∨ w.heap.size + 4 ≤ k)
    (hp2 : Blk V2 p 36 #[.slice IA' n' c', out]) (hrb : RB V2 K IA n rem → RB V2 K IA' n' rem') (hnc : n' ≤ c' ∧ n' ≤ n)
    (hh : BB V2 (w.heap.size + 1) 80 hb') (hlen : hb'.length = 2) : PrSt w p cn sc K sa sb out IA' n' c' rem' hb' F V2 := by
  have hlow := h.low
  have hold := h.old
  have hsz := ha.size
  refine ⟨hp2, ?_, ⟨hnc.1, Nat.le_trans hnc.2 h.nc.2⟩, h.conn.apart ha (fun hm => by have := hps _ hm; omega) (fun hm => by have := hps _ hm; omega), ha.blk h.res (fun hm => by have := hps _ hm; omega), hh, hlen, ha.blk h.msg (fun hm => by have := hps _ hm; omega), ?_, by omega, hlow⟩
  · refine hrb ⟨h.inb.1, fun h0 => ?_⟩
    obtain ⟨ad, e, hb, hc⟩ := h.inb.2 h0
    refine ⟨ad, e, hb, fun j u hu => (ha.cell (by rw [block_of_add]; omega) ?_).trans (hc j u hu)⟩
    rw [block_of_add]
    intro hm
    have := hps _ hm
    omega
  · exact h.ap.via ha (fun i hi hm => by have := hps _ hm; simp; omega)
theorem PrSt.keep (h : PrSt w p cn sc K sa sb out IA n c rem hb F V) {ps : List Nat} (ha : Apart ps V V2) (hps : ∀ k ∈ ps, w.heap.size + 4 ≤ k) : PrSt w p cn sc K sa sb out IA n c rem hb F V2 := by
  have hlow := h.low
  have hold := h.old
  exact h.step ha (fun k hk => .inr (.inr (hps k hk))) (ha.blk h.pipe (fun hm => by have := hps _ hm; omega)) (fun x => x) ⟨h.nc.1, Nat.le_refl _⟩ (ha.blk h.hdr (fun hm => by have := hps _ hm; omega)) h.hl
theorem PrSt.setMsg (h : PrSt w p cn sc K sa sb out IA n c rem hb F V) (F2 : Value) (o : Nat) (u : Value) (e : (#[F, .int .u8 0, .bool false, .nilIface] : Array Value).setIfInBounds o u = #[F2, .int .u8 0, .bool false, .nilIface]) : PrSt w p cn sc K sa sb out IA n c rem hb F2 (V.setCell ⟨w.heap.size + 1 + 1 + 1, o, none⟩ u) := by
  have hlow := h.low
  have hold := h.old
  have hm := h.msg.set_ o u
  rw [e] at hm
  exact ⟨h.pipe.farN (by omega) _, h.inb.setCell (p := ⟨w.heap.size + 1 + 1 + 1, o, none⟩) (by simp only; omega) _, h.nc, h.conn.farN (by omega) (by omega) _, h.res.farN (by omega) _, h.hdr.farN (by omega) _, h.hl, hm, h.ap.setN (.inr (by omega)) _, by rw [World.size_setCell]; exact hold, hlow⟩
end

/-- What the reading of a command answers. -/
def PReadOk (w : World) (p K n m : Nat) (out : Value) (body rest : List UInt8) (e : Ending) (w' : World) : Prop :=
  ∃ (IA' : Option Addr) (c' : Nat) (FA : Option Addr) (gb fc cB : Nat), e = .returned (.agg #[.slice FA 1 fc, .int .u8 1, .bool false, .nilIface]) ∧ w'.ownsRow w.heap.size 23 1 (.slice FA 1 fc) 1 [.slice (some ⟨gb, 0, none⟩) m cB] ∧ (BB w' gb 5 (body ++ List.replicate (cB - m) 0) ∧ w.heap.size + 4 ≤ gb ∧ m ≤ cB) ∧
    Blk w' p 36 #[.slice IA' (n - 2 - m) c', out] ∧ RB w' K IA' (n - 2 - m) rest ∧ n - 2 - m ≤ c' ∧ Apart [p] w w'
theorem preadFin {w : World} {p cn sc K : Nat} {sa sb out : Value} {IA' : Option Addr} {n m c' : Nat} {rest hb body : List UInt8} {F : Value} {V V2 : World} {B1 gb : Nat} {A9 : Option Addr} {c9 cB : Nat}
    (h : PrSt w p cn sc K sa sb out IA' (n - 2 - m) c' rest hb F V) (hb1 : w.heap.size + 4 ≤ B1) (ho : V.ownsRow B1 23 1 (.slice A9 1 c9) 1 [.slice (some ⟨gb, 0, none⟩) m cB]) (hb2 : w.heap.size + 4 ≤ gb) (hB : BB V gb 5 (body ++ List.replicate (cB - m) 0)) (hmc : m ≤ cB) (hA : Apart [w.heap.size, w.heap.size + 1 + 1 + 1] V V2) :
    PReadOk w p K n m out body rest (.returned (.agg #[.slice A9 1 c9, .int .u8 1, .bool false, .nilIface])) V2 := by
  have hlow := h.low
  have hold := h.old
  refine ⟨IA', c', A9, gb, c9, cB, rfl, ?_, ⟨hB.apart hA (by simp; omega), hb2, hmc⟩, hA.blk h.pipe (by simp; omega), h.inb.below (hA.below (by omega) (fun k hk => by simp at hk; omega)), h.nc.1, h.ap.via hA (fun i hi hm => by simp at hm; omega)⟩
  · refine ownsRow_mono (hA.own ho (fun g hg => ?_)) (by omega)
    have h2 : B1 ≤ g := own_base ho (by cases A9 with
      | none => cases hg
      | some ad => exact hg)
    simp
    omega

set_option maxRecDepth 100000 in
set_option maxHeartbeats 8000000 in
theorem PRead (p cn sc K m : Nat) (sa sb : Value) (IA : Option Addr) (n c : Nat) (out : Value) (body rest : List UInt8) (w : World) (hp : Blk w p 36 #[.slice IA n c, out]) (hr : RB w K IA n ([4, UInt8.ofNat m] ++ (body ++ rest)))
    (hb : body.length = m) (hm : m ≤ 255) (hm0 : 0 < m) (hc : n ≤ c) (hn : n ≤ 1099511627776) (hcn : PConn w cn p sc sa sb) (hne : cn ≠ p) (hns : sc ≠ p) (hKp : K ≤ p) :
    Calls Tryz.prog 41 #[.pointer (some ⟨cn, 0, none⟩)] w (PReadOk w p K n m out body rest) := by
  have hA4 : Below w.heap.size w ((((w.alloc (.cells #[.slice none 0 0, .int .u8 0, .bool false, .nilIface] 110)).alloc (.cells #[.int .u8 0, .int .u8 0] 80)).alloc (.cells #[.int .u8 0, .int .u8 0, .int .u8 0, .int .u8 0, .int .u8 0, .int .u8 0, .int .u8 0, .int .u8 0] 81)).alloc (.cells #[.slice none 0 0, .int .u8 0, .bool false, .nilIface] 110)) :=
    ((((Below.refl _ w).alloc (Nat.le_refl _) _).alloc (by simp) _).alloc (by simp; omega) _).alloc (by simp; omega) _
  have hS0 : PrSt w p cn sc K sa sb out IA n c ([4, UInt8.ofNat m] ++ (body ++ rest)) [0, 0] (.slice none 0 0) ((((w.alloc (.cells #[.slice none 0 0, .int .u8 0, .bool false, .nilIface] 110)).alloc (.cells #[.int .u8 0, .int .u8 0] 80)).alloc (.cells #[.int .u8 0, .int .u8 0, .int .u8 0, .int .u8 0, .int .u8 0, .int .u8 0, .int .u8 0, .int .u8 0] 81)).alloc (.cells #[.slice none 0 0, .int .u8 0, .bool false, .nilIface] 110)) := by
    have b0 := (((Blk.new w 110 #[.slice none 0 0, .int .u8 0, .bool false, .nilIface]).alloc (.cells #[.int .u8 0, .int .u8 0] 80)).alloc (.cells #[.int .u8 0, .int .u8 0, .int .u8 0, .int .u8 0, .int .u8 0, .int .u8 0, .int .u8 0, .int .u8 0] 81)).alloc (.cells #[.slice none 0 0, .int .u8 0, .bool false, .nilIface] 110)
    have b1 := ((Blk.new (w.alloc (.cells #[.slice none 0 0, .int .u8 0, .bool false, .nilIface] 110)) 80 #[.int .u8 0, .int .u8 0]).alloc (.cells #[.int .u8 0, .int .u8 0, .int .u8 0, .int .u8 0, .int .u8 0, .int .u8 0, .int .u8 0, .int .u8 0] 81)).alloc (.cells #[.slice none 0 0, .int .u8 0, .bool false, .nilIface] 110)
    have b3 := Blk.new (((w.alloc (.cells #[.slice none 0 0, .int .u8 0, .bool false, .nilIface] 110)).alloc (.cells #[.int .u8 0, .int .u8 0] 80)).alloc (.cells #[.int .u8 0, .int .u8 0, .int .u8 0, .int .u8 0, .int .u8 0, .int .u8 0, .int .u8 0, .int .u8 0] 81)) 110 #[.slice none 0 0, .int .u8 0, .bool false, .nilIface]
    simp only [World.size_alloc] at b1 b3
    exact ⟨hp.after hA4 (Nat.le_refl _), hr.below (hA4.mono (by have := hp.lt; omega)), ⟨hc, hn⟩, hcn.after hA4 (Nat.le_refl _), b0, b1, rfl, b3, Apart.of_below hA4, by simp, hp.lt, hcn.lt.1, hcn.lt.2, hne, hns, hKp⟩
  have HS := Lib.hid hS0
  have hpw := hp.lt
  have hcw := hcn.lt
  have c2 := hS0.conn.rw_
  have HB := Lib.hid hb
  clear hA4 hS0 hp hr hcn hb
  go_enter Tryz.func41, Tryz.ntmps41
  go_wp2_with fail
  generalize ((((w.alloc (.cells #[.slice none 0 0, .int .u8 0, .bool false, .nilIface] 110)).alloc (.cells #[.int .u8 0, .int .u8 0] 80)).alloc (.cells #[.int .u8 0, .int .u8 0, .int .u8 0, .int .u8 0, .int .u8 0, .int .u8 0, .int .u8 0, .int .u8 0] 81)).alloc (.cells #[.slice none 0 0, .int .u8 0, .bool false, .nilIface] 110)) = W at HS c2
  have hm4 : ∀ W : World, Calls Tryz.prog 60 #[.int .u8 4] W fun e w' => e = .returned (.bool false) ∧ W = w' := fun W => hasMore false true false W
  have hc4 : ∀ W : World, Calls Tryz.prog 61 #[.int .u8 4] W fun e w' => e = .returned (.bool true) ∧ W = w' := fun W => isCommand false true false W
  have hl4 : ∀ W : World, Calls Tryz.prog 62 #[.int .u8 4] W fun e w' => e = .returned (.bool false) ∧ W = w' := fun W => isLong false true false W
  have HL := Lib.hid (⟨hm4, hc4, hl4⟩ : _ ∧ _ ∧ _)
  clear hm4 hc4 hl4
  refine wp_loop_rounds 2 ?_
  rw [rounds_succ]
  go_wp2_with fail
  have hnl : 2 + m + rest.length = n := by have := HS.out.inb.len; have h2 := HB.out; simp at this; omega
  have e0 := HS.out.hdr.frozen 0
  go_region_held3 (fun V => V.cell? ⟨cn, 2, none⟩ = some (.iface 34 (.pointer (some ⟨p, 0, none⟩)))) ((first | exact c2 | assumption | exact cell_far (by assumption) (by omega) _ _))
    (first
      | (go_at_call 59
         refine (readFull_ok p (w.heap.size + 1) 0 _ IA n c 2 2 out _ [4, UInt8.ofNat m] (body ++ rest) _ HS.out.pipe.drew HS.out.hdr.drew (HS.out.inb.more (by show K ≤ W.heap.size; have := HS.out.old; have := HS.out.low; omega)).drew rfl hn (by decide) (by omega)).mono ?_
         rintro e w2 ⟨rfl, hh2, ⟨IA4, c4, hp2, hrb, hnc4, hoff4⟩, ha2, hs2⟩
         have d2 := (HS.out.conn.drew.apart ha2 (by simp; omega) (by simp; omega)).rw_
         have d3 := (ha2.blk HS.out.msg.drew (by simp; omega)).cell 3
         have d4 := (ha2.blk HS.out.msg.drew (by simp; omega)).frozen 3
         simp only [List.getElem?_toArray, List.getElem?_cons_zero, List.getElem?_cons_succ] at d3))
  rename_i aK _
  refine aK _ _ ?_
  rw [splice_all (l := [0, 0]) (x := [4, UInt8.ofNat m]) (k := 2) rfl rfl] at hh2
  have hS2 := (HS.out.step ((Apart.refl _ _).drew.trans ha2) (fun k hk => by simp at hk; omega) hp2 (fun h => hrb _ _ h hc) ⟨hnc4 hc, by omega⟩ hh2 rfl).setMsg (.slice none 0 0) 3 .nilIface rfl
  generalize w2.setCell ⟨w.heap.size + 1 + 1 + 1, 3, none⟩ .nilIface = W2 at hS2 ⊢
  clear hh2 hp2 hrb hnc4 hoff4 ha2 hs2 d2 d3 d4 c2 e0
  have HS2 := Lib.hid hS2
  have m3 := hS2.msg.cell 3
  have g0 := hS2.hdr.cell (i := 0) (by simp)
  have g1 := hS2.hdr.cell (i := 1) (by simp)
  have em : ((UInt8.ofNat m).toNat : Int) = (m : Int) := by
    have : (UInt8.ofNat m).toNat = m := by simp; omega
    rw [this]
  simp only [List.getElem?_toArray, List.getElem?_cons_zero, List.getElem?_cons_succ, List.getD_cons_zero, List.getD_cons_succ] at m3 g0 g1
  rw [em] at g1
  have g0' : W2.cell? ⟨w.heap.size + 1, 0, none⟩ = some (.int .u8 4) := g0
  clear hS2 g0 em
  have hmk := makeN m (by omega)
  have hpW := HS2.out.pipe.lt
  have hoW := HS2.out.old
  have c2 := HS2.out.conn.rw_
  have d2 := (HS2.out.conn.alloc (.cells (bv (noughts m)).toArray 5)).rw_
  go_wp2_with fail
  refine (HL.out.1 W2).mono ?_
  rintro e w' ⟨rfl, rfl⟩
  go_wp2_with fail
  refine (HL.out.2.1 W2).mono ?_
  rintro e w' ⟨rfl, rfl⟩
  go_wp2_with fail
  refine (HL.out.2.2 W2).mono ?_
  rintro e w' ⟨rfl, rfl⟩
  go_wp2_with fail
  clear g0' g1
  refine (readFull_ok p W2.heap.size 0 _ IA4 (n - 2) c4 m m out _ body rest _ (HS2.out.pipe.alloc _) (BB.mk W2 5 (noughts m)) ((HS2.out.inb.more (by have := HS2.out.old; have := HS2.out.low; omega)).new _) HB.out (by omega) (by simp [noughts]) (by omega)).mono ?_
  rintro e w3 ⟨rfl, hh2, ⟨IA5, c5, hp2, hrb, hnc5, hoff5⟩, ha2, hs2⟩
  rw [splice_all (by simp [noughts]) HB.out] at hh2
  have ha3 := ((Apart.refl [W2.heap.size, p] W2).alloc (.cells (bv (noughts m)).toArray 5)).trans ha2
  have hS3 := HS2.out.step ha3 (fun k hk => by simp at hk; omega) hp2 (fun h => hrb _ _ h HS2.out.nc.1) ⟨hnc5 HS2.out.nc.1, by omega⟩ (ha3.blk HS2.out.hdr (by simp; omega)) HS2.out.hl
  have d3 := hS3.msg.cell 3
  have d4 := hS3.msg.frozen 3
  simp only [List.getElem?_toArray, List.getElem?_cons_zero, List.getElem?_cons_succ] at d3
  have hS4 := hS3.setMsg (.slice none 0 0) 3 .nilIface rfl
  have hbd4 := BB.farN hh2 (b := w.heap.size + 1 + 1 + 1) (o := 3) (by omega) .nilIface
  have hWl : W2.heap.size < w3.heap.size := hh2.lt
  have HB4 := Lib.hid hbd4
  have c3 := hS4.conn.sec
  have np := nil_PType sc
  have mp := plain_Type sc sa sb _ hS4.conn.2
  have m34 := hS4.msg.cell 3
  simp only [List.getElem?_toArray, List.getElem?_cons_zero, List.getElem?_cons_succ] at m34
  have HS4 := Lib.hid hS4
  clear hS3 hS4 ha2 ha3 c2 d2 hmk m3 hp2 hrb hnc5 hoff5 hh2 hs2 hbd4
  go_wp2_with fail
  refine (PType sa sb _).mono ?_
  rintro e w4 ⟨rfl, hb4⟩
  have hS5 := HS4.out.keep (ps := []) (Apart.of_below hb4) (fun k hk => by cases hk)
  have hd5 : BB w4 W2.heap.size 5 body := BB.after HB4.out hb4 (Nat.le_refl _)
  have hs4 : w3.heap.size ≤ w4.heap.size := by have := hb4.size; rw [World.size_setCell] at this; exact this
  have hS6 := hS5.keep (ps := []) ((Apart.refl _ _).alloc (.cells #[.slice none 0 0] 91)) (fun k hk => by cases hk)
  have hq6 := Blk.new w4 91 #[.slice none 0 0]
  have hd6 := hd5.alloc (.cells #[.slice none 0 0] 91)
  have HS5old := hS5.old
  have c3 := hS6.conn.sec
  have nd := nil_PDecrypt sc
  have md := plain_Decrypt sc sa sb _ hS6.conn.2
  have HS6 := Lib.hid hS6
  have HQ6 := Lib.hid (⟨hq6, hd6⟩ : _ ∧ _)
  clear hS5 hS6 hq6 hd5 hd6 hb4 mp m34 d3 d4
  go_wp2_with fail
  have hrb6 := HQ6.out.2.rb (o := 0) (n := m) (by rw [HB.out]; omega)
  rw [List.drop_zero, List.take_of_length_le (by rw [HB.out]; exact Nat.le_refl _)] at hrb6
  refine (PDecrypt w4.heap.size m m _ _ body sa sb _ HQ6.out.1 hrb6 (Nat.le_refl _) hm0 (by omega)).mono ?_
  rintro e w7 ⟨rfl, gb, cB, v, hov, hgb, hcB, hbv, rfl⟩
  rw [World.size_alloc] at hgb
  have hq7 := (HQ6.out.1.after hbv (Nat.le_refl _)).setN (.slice (some ⟨gb, 0, none⟩) m cB)
  have hov7 := hov.farN (b := w4.heap.size) (o := 0) (by omega) (.slice (some ⟨gb, 0, none⟩) m cB)
  have hS7 := (HS6.out.keep (ps := []) (Apart.of_below hbv) (fun k hk => by cases hk)).keep (ps := [w4.heap.size]) ((Apart.refl _ _).setN (g := w4.heap.size) (o := 0) (.inl (by simp)) (.slice (some ⟨gb, 0, none⟩) m cB)) (fun k hk => by simp at hk; have := HS5old; omega)
  have m37 := hS7.msg.cell 3
  have f37 := hS7.msg.frozen 3
  simp only [List.getElem?_toArray, List.getElem?_cons_zero, List.getElem?_cons_succ] at m37
  have hS8 := hS7.setMsg (.slice none 0 0) 3 .nilIface rfl
  have hq8 := hq7.farN (b := w.heap.size + 1 + 1 + 1) (o := 3) (by have := HS5old; omega) .nilIface
  have hov8 := hov7.farN (b := w.heap.size + 1 + 1 + 1) (o := 3) (by have := HS5old; omega) .nilIface
  generalize v.setCell ⟨w4.heap.size, 0, none⟩ (.slice (some ⟨gb, 0, none⟩) m cB) = W7 at *
  have m38 := hS8.msg.cell 3
  have m30 := hS8.msg.cell 0
  simp only [List.getElem?_toArray, List.getElem?_cons_zero, List.getElem?_cons_succ] at m38 m30
  have HS8 := Lib.hid (⟨hS8, hq8, hov8⟩ : _ ∧ _ ∧ _)
  clear hrb6 hov hbv hq7 hov7 hS7 hS8 hq8 hov8 c3 nd md HS6 HQ6 HB4 HS4
  go_wp2_with fail
  generalize W7.setCell ⟨w.heap.size + 1 + 1 + 1, 3, none⟩ .nilIface = W8 at *
  have hz8 : w4.heap.size < W8.heap.size := HS8.out.2.1.lt
  have f30 := HS8.out.1.msg.frozen 0
  have m31 : (W8.alloc (.cells #[.slice (some ⟨gb, 0, none⟩) m cB] 23)).cell? ⟨w.heap.size + 1 + 1 + 1, 0, none⟩ = some (.slice none 0 0) := (HS8.out.1.msg.alloc _).cell 0
  have hsz8 : W8.heap.size ≤ (W8.alloc (.cells #[.slice (some ⟨gb, 0, none⟩) m cB] 23)).heap.size := by rw [World.size_alloc]; omega
  clear m37 f37 m38
  go_region_law
    (first
      | (with_reducible refine st_at 126 ?_
         rw [if_pos (by rfl)]
         go_simp
         refine (Bytes_ok w4.heap.size m cB (some ⟨gb, 0, none⟩) _ HS8.out.2.1.drew).mono ?_
         rintro e w8 ⟨rfl, rfl⟩
         have hsrc := srcNew elBytes (w := W8.drew) #[.slice (some ⟨gb, 0, none⟩) m cB] rfl (by intro u hu; simp at hu; subst hu; rfl))
      | (with_reducible refine st_at 128 ?_
         refine st_appT rfl elBytes (.tmp 124) (.tmp 127) 73 rfl W8.heap.size none 0 0 [] rfl (World.ownsRow_nil _ _ _ _) _ 1 [.slice (some ⟨gb, 0, none⟩) m cB] rfl hsrc 1 rfl (by omega) (by decide) hsz8 ?_
         intro A9 c9 w9 ho9 hg9 ha9
         have hb9 : Below W8.heap.size W8 w9 := ((Below.refl _ W8).drew.alloc (Nat.le_refl _) _).trans ((below_of_grownBy hg9).mono hsz8)
         have m90 := (HS8.out.1.msg.after hb9 (Nat.le_refl _)).cell 0
         have f90 := (HS8.out.1.msg.after hb9 (Nat.le_refl _)).frozen 0
         simp only [List.getElem?_toArray, List.getElem?_cons_zero] at m90))
  all_goals
    have hlo := HS8.out.1.low
    have hS9 := HS8.out.1.keep (ps := []) (Apart.of_below hb9) (fun k hk => by cases hk)
    have hS10 := hS9.setMsg (.slice A9 1 c9) 0 (.slice A9 1 c9) rfl
    have ho10 := ownsRow_setCell_below ho9 (a := ⟨w.heap.size + 1 + 1 + 1, 0, none⟩) (by simp only; omega) (.slice A9 1 c9)
    have hB10 := (BB.after HS8.out.2.2 hb9 (Nat.le_refl _)).farN (b := w.heap.size + 1 + 1 + 1) (o := 0) (by omega) (.slice A9 1 c9)
    have HZ := Lib.hid (⟨hS10, ho10, hB10⟩ : _ ∧ _ ∧ _)
    have x0 := hS10.msg.cell 0
    have x1 := hS10.msg.cell 1
    have x2 := hS10.msg.cell 2
    have x3 := hS10.msg.cell 3
    have y1 := hS10.msg.frozen 1
    have r0 := hS10.res.cell 0
    have r1 := hS10.res.cell 1
    have r2 := hS10.res.cell 2
    have r3 := hS10.res.cell 3
    have e0 := hS10.res.frozen 0
    have e1 := hS10.res.frozen 1
    have e2 := hS10.res.frozen 2
    have e3 := hS10.res.frozen 3
    simp only [nilMsg, List.getElem?_toArray, List.getElem?_cons_zero, List.getElem?_cons_succ] at x0 x1 x2 x3 r0 r1 r2 r3
    generalize w9.setCell ⟨w.heap.size + 1 + 1 + 1, 0, none⟩ (.slice A9 1 c9) = W10 at HZ x0 x1 x2 x3 y1 r0 r1 r2 r3 e0 e1 e2 e3 ⊢
    clear hS9 hS10 ho10 hB10 hb9 ho9 hg9 ha9 m90 f90 hsrc m30 m31 f30 HS8 hsz8
    simp only [Exit.inBlock, Exit.then]
    (try go_frame)
    rw [rounds_succ]
    go_wp2_with fail
    have hold := HZ.out.1.old
    have hA : Apart [w.heap.size, w.heap.size + 1 + 1 + 1] W10 (fin4 (W10.setCell ⟨w.heap.size + 1 + 1 + 1, 1, none⟩ (.int .u8 1)) w.heap.size (.slice A9 1 c9) (.int .u8 1) (.bool false) .nilIface) := fin4_apart ((Apart.refl _ _).setN (.inl (by simp)) _) (by simp) _ _ _ _
    have hB := fin4_blk (HZ.out.1.res.farN (by omega) _) (.slice A9 1 c9) (.int .u8 1) (.bool false) .nilIface (w := (W10.setCell ⟨w.heap.size + 1 + 1 + 1, 1, none⟩ (.int .u8 1)))
    have hF := preadFin HZ.out.1 (by omega) HZ.out.2.1 (by omega) HZ.out.2.2 hcB hA
    have k0 := hB.cell 0
    have k1 := hB.cell 1
    have k2 := hB.cell 2
    have k3 := hB.cell 3
    simp only [List.getElem?_toArray, List.getElem?_cons_zero, List.getElem?_cons_succ] at k0 k1 k2 k3
    unfold fin4 at k0 k1 k2 k3 hF
    exact bodyPost_ret (v := .agg #[.slice A9 1 c9, .int .u8 1, .bool false, .nilIface]) (by simp [results, Tryz.results41, go_sem, k0, k1, k2, k3]) rfl hF
end Go.Proofs.YtkpcepdalegmmaaGreatDoor

/-! Frames: (*ZZPipe).Write, nullSecurity.Encrypt. -/
namespace Go.Proofs.YtkpcepdalegmmaaGreatDoor
open Go.RowKit

set_option maxRecDepth 100000 in
theorem Write_any (p base on oc m c B : Nat) (iv : Value) (OA A : Option Addr) (ob l : List UInt8) (w : World) (hp : Blk w p 36 #[iv, .slice OA on oc]) (ho : OB w base OA on oc ob) (hr : RB w B A m l) (hsz : on + m ≤ 70368744177664) (hb : base ≤ w.heap.size) :
    Calls Tryz.prog 125 #[.pointer (some ⟨p, 0, none⟩), .slice A m c] w fun e w' => e = .returned (.tuple #[.int .i64 m, .nilIface]) ∧ ∃ OA' oc' v, OB v base OA' (on + m) oc' (ob ++ l) ∧ w.grownBy v (OA.map (·.block)) ∧ (OA' = OA ∨ OA' = some ⟨w.heap.size, 0, none⟩) ∧ w' = v.setCell ⟨p, 1, none⟩ (.slice OA' (on + m) oc') := by
  have c1 := hp.cell 1
  simp only [List.getElem?_toArray, List.getElem?_cons_zero, List.getElem?_cons_succ] at c1
  have hne : some p ≠ OA.map (·.block) := by
    have := own_blk_ne ho hp (by decide)
    cases OA with
    | none => simp
    | some ad =>
      simp [Value.ownBlock] at this ⊢
      exact fun e => this e.symm
  go_enter Tryz.func125, Tryz.ntmps125
  go_wp2_with (first
    | (at_builtin
       refine wpl_appB rfl (.tmp 10) (.tmp 11) 23 rfl base _ on oc ob rfl ho _ m l rfl (srcB hr) (on + m) rfl (by omega) hb ?_
       intro A1 c1' w1 ho1 hg1 ha1
       have hp1 := hp.grown hg1 hne
       have d1 := hp1.cell 1
       have f1 := hp1.frozen 1
       simp only [List.getElem?_toArray, List.getElem?_cons_zero, List.getElem?_cons_succ] at d1))
  go_ret2
  exact ⟨rfl, A1, c1', w1, ho1, hg1, ha1, rfl⟩

theorem nil_Write (a : Addr) (w : World) : (nilAhead 318 34 (.pointer (some a)) "Write").run Tryz.prog w = .ok (some false) w := by kernel_rfl
theorem method_Write (a : Addr) (w : World) : (method 318 34 (.pointer (some a)) "Write").run Tryz.prog w = .ok (125, .pointer (some a)) w := by kernel_rfl
theorem nil_Encrypt (w : World) : (nilAhead 318 107 (.agg #[]) "Encrypt").run Tryz.prog w = .ok (some false) w := by kernel_rfl
theorem method_Encrypt (w : World) : (method 318 107 (.agg #[]) "Encrypt").run Tryz.prog w = .ok (143, .agg #[]) w := by kernel_rfl

set_option maxRecDepth 100000 in
theorem Encrypt_any (p base on oc m c B : Nat) (iv : Value) (OA A : Option Addr) (ob l : List UInt8) (w : World) (hp : Blk w p 36 #[iv, .slice OA on oc]) (ho : OB w base OA on oc ob) (hr : RB w B A m l) (hB : B ≤ w.heap.size) (hsz : on + m ≤ 70368744177664) (hb : base ≤ w.heap.size) :
    Calls Tryz.prog 143 #[.agg #[], .iface 34 (.pointer (some ⟨p, 0, none⟩)), .slice A m c] w fun e w' => e = .returned (.tuple #[.int .i64 m, .nilIface]) ∧ ∃ OA' oc' u v, OB v base OA' (on + m) oc' (ob ++ l) ∧ Below w.heap.size w u ∧ u.grownBy v (OA.map (·.block)) ∧ w' = v.setCell ⟨p, 1, none⟩ (.slice OA' (on + m) oc') := by
  have na := nil_Write ⟨p, 0, none⟩
  have ma := method_Write ⟨p, 0, none⟩
  go_enter Tryz.func143, Tryz.ntmps143
  go_wp2_with fail
  refine (Write_any p base on oc m c B iv OA A ob l _ (hp.alloc _) (ho.alloc _) (hr.alloc hB _) hsz (by rw [World.size_alloc]; omega)).mono ?_
  rintro e w2 ⟨rfl, OA', oc', v, hov, hg, _, rfl⟩
  go_wp2_with fail
  go_ret2
  exact ⟨rfl, OA', oc', _, v, hov, (Below.refl _ _).alloc (Nat.le_refl _) _, hg, rfl⟩
end Go.Proofs.YtkpcepdalegmmaaGreatDoor
