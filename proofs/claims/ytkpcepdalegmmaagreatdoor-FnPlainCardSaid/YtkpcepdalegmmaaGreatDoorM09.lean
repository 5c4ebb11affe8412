/- Parts of a proof, laid behind one another: (*Conn).read: the walk. -/
import Derived.Test.YtkpcepdalegmmaaGreatDoorM08
import Derived.Test.YtkpcepdalegmmaaGreatDoorM04
/-! (*Conn).read: the walk. -/
namespace Go.Proofs.YtkpcepdalegmmaaGreatDoor
open Go.RowKit

/-- A pipe's bytes that are left, for the loop's measure. -/
def inLen : Value → Nat | .slice _ n _ => n | _ => 0
def nilMsg : Array Value := #[.slice none 0 0, .int .u8 0, .bool false, .nilIface]
/-- Where the reading stands at a round's head. -/
structure RdSt (Z : Nat → Prop) (w : World) (p cn : Nat) (out : Value) (rem : List UInt8) (seen : List Fr) (gs : List (Nat × List UInt8)) (FA : Option Addr) (fc : Nat) (IA : Option Addr) (n c : Nat) (hb lb : List UInt8) (wr : World) : Prop where
  pipe : Blk wr p 36 #[.slice IA n c, out]
  inb : RB wr w.heap.size IA n rem
  nc : n ≤ c ∧ n ≤ 1099511627776
  off : (∀ ad, IA = some ad → Z ad.block) ∧ (∀ b, Z b → b ≠ p)
  conn : IsConn wr cn p
  res : Blk wr w.heap.size 110 nilMsg
  hdr : BB wr (w.heap.size + 1) 80 hb
  lng : BB wr (w.heap.size + 1 + 1) 81 lb
  hl : hb.length = 2 ∧ lb.length = 8
  msg : Blk wr (w.heap.size + 1 + 1 + 1) 110 #[.slice FA gs.length fc, .int .u8 0, .bool false, .nilIface]
  own : wr.ownsRow (w.heap.size + 4) 23 1 (.slice FA gs.length fc) gs.length (gotCells gs)
  got : Got wr (w.heap.size + 4) gs
  bods : gs.map (·.2) = seen.map (·.body)
  ap : Apart [p] w wr
  old : w.heap.size + 4 ≤ wr.heap.size

/-- What a whole message answers. -/
def ReadOk (Z : Nat → Prop) (w : World) (p cn n : Nat) (out : Value) (rest : List UInt8) (fs : List Fr) (e : Ending) (w' : World) : Prop :=
  ∃ (IA' : Option Addr) (n' c' : Nat) (gs : List (Nat × List UInt8)) (FA : Option Addr) (fc : Nat), e = .returned (.agg #[.slice FA gs.length fc, .int .u8 (if fs.any Fr.cmd = true then 1 else 0), .bool false, .nilIface]) ∧ w'.ownsRow w.heap.size 23 1 (.slice FA gs.length fc) gs.length (gotCells gs) ∧
    Got w' w.heap.size gs ∧ gs.map (·.2) = fs.map (·.body) ∧ Blk w' p 36 #[.slice IA' n' c', out] ∧ RB w' w.heap.size IA' n' rest ∧ n' ≤ c' ∧ n' ≤ n ∧ (∀ ad, IA' = some ad → Z ad.block) ∧ IsConn w' cn p ∧ Apart [p] w w'
/-- What a message that is cut answers. -/
def ReadNo (w : World) (p cn : Nat) (e : Ending) (w' : World) : Prop :=
  (∃ FA k fc s, e = .returned (.agg #[.slice FA k fc, .int .u8 0, .bool false, .iface 87 (.string s)])) ∧ Apart [p, cn] w w'

def fin4 (w : World) (h : Nat) (a b c d : Value) : World := (((w.setCell ⟨h, 0, none⟩ a).setCell ⟨h, 1, none⟩ b).setCell ⟨h, 2, none⟩ c).setCell ⟨h, 3, none⟩ d
theorem fin4_blk {w : World} {h : Nat} {t : TypeId} {x0 x1 x2 x3 : Value} (hb : Blk w h t #[x0, x1, x2, x3]) (a b c d : Value) : Blk (fin4 w h a b c d) h t #[a, b, c, d] := (((hb.set_ 0 a).set_ 1 b).set_ 2 c).set_ 3 d
theorem fin4_apart {ps : List Nat} {v w : World} {h : Nat} (ha : Apart ps v w) (hp : h ∈ ps) (a b c d : Value) : Apart ps v (fin4 w h a b c d) := (((ha.setN (.inl hp) a).setN (.inl hp) b).setN (.inl hp) c).setN (.inl hp) d

theorem ownsRow_mono {w : World} {base b' size n : Nat} {t : TypeId} {v : Value} {xs : List Value} (h : w.ownsRow base t size v n xs) (hb : b' ≤ base) : w.ownsRow b' t size v n xs := by
  refine ⟨h.1, ?_⟩
  rcases h.2 with h2 | ⟨g, cap, cur, e, hg, r⟩
  · exact .inl h2
  · exact .inr ⟨g, cap, cur, e, by omega, r⟩
theorem RdSt.fin {Z : Nat → Prop} {w : World} {p cn : Nat} {out : Value} {rem : List UInt8} {seen : List Fr} {gs : List (Nat × List UInt8)} {FA : Option Addr} {fc : Nat} {IA : Option Addr} {n c m : Nat} {hb lb : List UInt8} {wr V : World}
    (h : RdSt Z w p cn out rem seen gs FA fc IA n c hb lb wr) (hA : Apart [w.heap.size, w.heap.size + 1 + 1 + 1] wr V) (hp : p < w.heap.size) (hcn : cn < w.heap.size) (hn : n ≤ m) :
    ReadOk Z w p cn m out rem seen (.returned (.agg #[.slice FA gs.length fc, .int .u8 (if seen.any Fr.cmd = true then 1 else 0), .bool false, .nilIface])) V := by
  have hB : Below w.heap.size wr V := hA.below h.ap.size (fun k hk => by simp at hk; omega)
  refine ⟨IA, n, c, gs, FA, fc, rfl, ?_, ?_, h.bods, h.pipe.below hB hp, h.inb.below hB, h.nc.1, hn, h.off.1, h.conn.apart hA (by simp; omega), (h.ap.via hA (fun i hi hm => by simp at hm; omega))⟩
  · have ho := hA.own h.own (fun g hg => by
      have := own_base h.own (g := g) (by cases FA with
        | none => cases hg
        | some ad => exact hg)
      simp
      omega)
    exact ownsRow_mono ho (by omega)
  · exact fun x hx => ⟨((h.got.apart hA (fun k hk => by simp at hk; omega)) x hx).1, by have := (h.got x hx).2; omega⟩

theorem RdSt.next {Z : Nat → Prop} {w : World} {p cn : Nat} {out : Value} {rem rem' : List UInt8} {seen : List Fr} {gs : List (Nat × List UInt8)} {FA : Option Addr} {fc : Nat} {IA IA' : Option Addr} {n c n' c' : Nat} {hb lb hb' lb' : List UInt8} {wr w2 : World}
    (h : RdSt Z w p cn out rem seen gs FA fc IA n c hb lb wr) {ps : List Nat} (ha : Apart ps wr w2) (hps : ∀ k ∈ ps, k = p ∨ k = w.heap.size + 1 ∨ k = w.heap.size + 1 + 1 ∨ wr.heap.size ≤ k) (hp : p < w.heap.size) (hcn : cn < w.heap.size) (hne : cn ≠ p)
    (hp2 : Blk w2 p 36 #[.slice IA' n' c', out]) (hrb : RB w2 w.heap.size IA n rem → RB w2 w.heap.size IA' n' rem') (hnc : n' ≤ c' ∧ n' ≤ n) (hoff : ∀ ad, IA' = some ad → ∃ ad0, IA = some ad0 ∧ ad.block = ad0.block)
    (hh : BB w2 (w.heap.size + 1) 80 hb') (hl : BB w2 (w.heap.size + 1 + 1) 81 lb') (hlen : hb'.length = 2 ∧ lb'.length = 8) :
    RdSt Z w p cn out rem' seen gs FA fc IA' n' c' hb' lb' w2 := by
  have ho := h.old
  have hsz := ha.size
  refine ⟨hp2, ?_, ⟨hnc.1, Nat.le_trans hnc.2 h.nc.2⟩, ?_, ?_, ?_, hh, hl, hlen, ?_, ?_, ?_, h.bods, ?_, Nat.le_trans ho hsz⟩
  · refine hrb ⟨h.inb.1, fun h0 => ?_⟩
    obtain ⟨ad, e, hb, hc⟩ := h.inb.2 h0
    refine ⟨ad, e, hb, fun j u hu => (ha.cell (by rw [block_of_add]; omega) ?_).trans (hc j u hu)⟩
    rw [block_of_add]
    intro hm
    have := hps _ hm
    have := h.off.2 _ (h.off.1 ad e)
    omega
  · refine ⟨fun ad e => ?_, h.off.2⟩
    obtain ⟨ad0, e0, eb⟩ := hoff ad e
    rw [eb]
    exact h.off.1 ad0 e0
  · exact h.conn.apart ha (fun hm => by have := hps _ hm; omega)
  · exact ha.blk h.res (fun hm => by have := hps _ hm; omega)
  · exact ha.blk h.msg (fun hm => by have := hps _ hm; omega)
  · refine ha.own h.own (fun g hg hm => ?_)
    have h1 := hps _ hm
    have h2 : w.heap.size + 4 ≤ g := own_base h.own (by cases FA with
      | none => cases hg
      | some ad => exact hg)
    have h3 : g < wr.heap.size := by
      cases FA with
      | none => cases hg
      | some ad =>
        have := World.ownsRow.lt h.own ad.block rfl
        simp [Value.ownBlock] at hg
        omega
    omega
  · exact fun x hx => ⟨(h.got x hx).1.apart ha (fun hm => by have := hps _ hm; have := (h.got x hx).2; have := (h.got x hx).1.lt; omega), (h.got x hx).2⟩
  · exact h.ap.via ha (fun i hi hm => by have := hps _ hm; have := h.ap.size; simp; omega)
theorem RdSt.nilErr {Z : Nat → Prop} {w : World} {p cn : Nat} {out : Value} {rem : List UInt8} {seen : List Fr} {gs : List (Nat × List UInt8)} {FA : Option Addr} {fc : Nat} {IA : Option Addr} {n c : Nat} {hb lb : List UInt8} {wr : World}
    (h : RdSt Z w p cn out rem seen gs FA fc IA n c hb lb wr) (hp : p < w.heap.size) (hcn : cn < w.heap.size) : RdSt Z w p cn out rem seen gs FA fc IA n c hb lb (wr.setCell ⟨w.heap.size + 1 + 1 + 1, 3, none⟩ .nilIface) := by
  have ho := h.old
  refine ⟨h.pipe.farN (by omega) _, h.inb.setCell (p := ⟨w.heap.size + 1 + 1 + 1, 3, none⟩) (by simp only; omega) _, h.nc, h.off, h.conn.farN (by omega) _, h.res.farN (by omega) _, h.hdr.farN (by omega) _, h.lng.farN (by omega) _, h.hl, h.msg.set_ 3 _, ?_, h.got.farN (by omega) _, h.bods, h.ap.setN (.inr (by omega)) _, by rw [World.size_setCell]; exact ho⟩
  exact ownsRow_setCell_below h.own (a := ⟨w.heap.size + 1 + 1 + 1, 3, none⟩) (by simp only; omega) _
theorem RdSt.below_ {Z : Nat → Prop} {w : World} {p cn : Nat} {out : Value} {rem : List UInt8} {seen : List Fr} {gs : List (Nat × List UInt8)} {FA : Option Addr} {fc : Nat} {IA : Option Addr} {n c : Nat} {hb lb : List UInt8} {wr w2 : World}
    (h : RdSt Z w p cn out rem seen gs FA fc IA n c hb lb wr) (hbl : Below wr.heap.size wr w2) (hp : p < w.heap.size) (hcn : cn < w.heap.size) (hne : cn ≠ p) : RdSt Z w p cn out rem seen gs FA fc IA n c hb lb w2 := by
  have hlt := h.old
  exact h.next (ps := []) (Apart.of_below hbl) (fun k hk => by cases hk) hp hcn hne (h.pipe.after hbl (Nat.le_refl _)) (fun x => x) ⟨h.nc.1, Nat.le_refl _⟩ (fun ad e => ⟨ad, e, rfl⟩) (h.hdr.after hbl (Nat.le_refl _)) (h.lng.after hbl (Nat.le_refl _)) h.hl
theorem RdSt.push {Z : Nat → Prop} {w : World} {p cn : Nat} {out : Value} {rem : List UInt8} {seen : List Fr} {gs : List (Nat × List UInt8)} {FA FA2 : Option Addr} {fc fc2 d : Nat} {IA : Option Addr} {n c : Nat} {hb lb : List UInt8} {wr w2 : World} {f : Fr} {cs : Array Value} {T : TypeId}
    (h : RdSt Z w p cn out rem seen gs FA fc IA n c hb lb wr) (hp : p < w.heap.size) (hcn : cn < w.heap.size) (hd : BB wr d 5 f.body) (hdB : w.heap.size + 4 ≤ d) (hg : (wr.alloc (.cells cs T)).grownBy w2 (FA.map (·.block)))
    (ho : w2.ownsRow (w.heap.size + 4) 23 1 (.slice FA2 (gs.length + 1) fc2) (gs.length + 1) (gotCells gs ++ [.slice (some ⟨d, 0, none⟩) f.body.length f.body.length])) :
    RdSt Z w p cn out rem (seen ++ [f]) (gs ++ [(d, f.body)]) FA2 fc2 IA n c hb lb (w2.setCell ⟨w.heap.size + 1 + 1 + 1, 0, none⟩ (.slice FA2 (gs.length + 1) fc2)) := by
  have hold := h.old
  have hrow : ∀ g, FA.map (·.block) = some g → w.heap.size + 4 ≤ g := fun g hg => own_base h.own hg
  have hne : ∀ k, k < w.heap.size + 4 → some k ≠ FA.map (·.block) := fun k hk e => by have := hrow k e.symm; omega
  have hsz := hg.size
  rw [World.size_alloc] at hsz
  rw [gotCells_snoc] at ho
  have hgot : Got wr (w.heap.size + 4) (gs ++ [(d, f.body)]) := h.got.snoc hd hdB
  have hlen : (gs ++ [(d, f.body)]).length = gs.length + 1 := by simp
  refine ⟨((h.pipe.alloc _).grown hg (hne _ (by omega))).farN (by omega) _, ?_, h.nc, h.off, ((h.conn.alloc _).grown hg (hne _ (by omega))).farN (by omega) _, ((h.res.alloc _).grown hg (hne _ (by omega))).farN (by omega) _,
    BB.farN (Blk.grown (h.hdr.alloc _) hg (hne _ (by omega))) (by omega) _, BB.farN (Blk.grown (h.lng.alloc _) hg (hne _ (by omega))) (by omega) _, h.hl, ?_, ?_, ?_, ?_, ?_, ?_⟩
  · exact ((h.inb.alloc (by omega) _).grown hg (by simp; omega) (fun g e => by have := hrow g e; omega)).setCell (p := ⟨w.heap.size + 1 + 1 + 1, 0, none⟩) (by simp only; omega) _
  · rw [hlen]
    exact ((h.msg.alloc _).grown hg (hne _ (by omega))).set_ 0 _
  · rw [hlen]
    exact ownsRow_setCell_below ho (a := ⟨w.heap.size + 1 + 1 + 1, 0, none⟩) (by simp only; omega) _
  · exact ((hgot.alloc _).grown h.own (fun x hx => (hgot x hx).1) (by decide) hg).farN (by omega) _
  · simp [h.bods]
  · refine Apart.setN ?_ (.inr (by omega)) _
    exact ⟨hg.os.trans h.ap.os, hg.tape.trans h.ap.tape, hg.output.trans h.ap.output, by have := h.ap.size; omega, fun i hi hn => (hg.block i (by have := h.ap.size; simp; omega) (fun e => by have := hrow i e.symm; omega)).trans ((Below.heap_alloc wr _ i (by have := h.ap.size; omega)).trans (h.ap.block i hi hn))⟩
  · rw [World.size_setCell]
    omega
theorem row_ne {w : World} {base size n c k : Nat} {t : TypeId} {A : Option Addr} {xs : List Value} (h : w.ownsRow base t size (.slice A n c) n xs) (hk : k < base) : some k ≠ A.map (·.block) := fun e => by
  have := own_base h e.symm
  omega
theorem RdSt.lng0 {Z : Nat → Prop} {w : World} {p cn : Nat} {out : Value} {rem : List UInt8} {seen : List Fr} {gs : List (Nat × List UInt8)} {FA : Option Addr} {fc : Nat} {IA : Option Addr} {n c : Nat} {hb lb : List UInt8} {wr : World}
    (h : RdSt Z w p cn out rem seen gs FA fc IA n c hb lb wr) (hp : p < w.heap.size) (hcn : cn < w.heap.size) (hne : cn ≠ p) (x : UInt8) : RdSt Z w p cn out rem seen gs FA fc IA n c hb (lb.set 0 x) (wr.setCell ⟨w.heap.size + 1 + 1, 0, none⟩ (.int .u8 (x.toNat : Int))) :=
  h.next (ps := [w.heap.size + 1 + 1]) ((Apart.refl _ _).setN (.inl (by simp)) _) (fun k hk => by simp at hk; omega) hp hcn hne (h.pipe.farN (by omega) _) (fun x => x) ⟨h.nc.1, Nat.le_refl _⟩ (fun ad e => ⟨ad, e, rfl⟩) (h.hdr.farN (by omega) _) (h.lng.set 0 x) ⟨h.hl.1, by rw [List.length_set]; exact h.hl.2⟩
theorem RdSt.apart0 {Z : Nat → Prop} {w : World} {p cn : Nat} {out : Value} {rem : List UInt8} {seen : List Fr} {gs : List (Nat × List UInt8)} {FA : Option Addr} {fc : Nat} {IA : Option Addr} {n c : Nat} {hb lb : List UInt8} {wr w2 : World}
    (h : RdSt Z w p cn out rem seen gs FA fc IA n c hb lb wr) (ha : Apart [] wr w2) (hp : p < w.heap.size) (hcn : cn < w.heap.size) (hne : cn ≠ p) : RdSt Z w p cn out rem seen gs FA fc IA n c hb lb w2 :=
  h.next ha (fun k hk => by cases hk) hp hcn hne (ha.blk h.pipe (by simp)) (fun x => x) ⟨h.nc.1, Nat.le_refl _⟩ (fun ad e => ⟨ad, e, rfl⟩) (ha.blk h.hdr (by simp)) (ha.blk h.lng (by simp)) h.hl
theorem splice_be8 {l : List UInt8} {n : Nat} (h : l.length = 8) : splice (l.set 0 0) 1 (seven n) = be8 n := by
  match l, h with
  | [_, _, _, _, _, _, _, _], _ => rfl
/-- Where the reading stands once it has met an error. -/
structure ErrSt (w : World) (p cn : Nat) (FA : Option Addr) (k fc : Nat) (s : ByteArray) (W : World) : Prop where
  conn : IsConn W cn p
  msg : Blk W (w.heap.size + 1 + 1 + 1) 110 #[.slice FA k fc, .int .u8 0, .bool false, .iface 87 (.string s)]
  res : Blk W w.heap.size 110 nilMsg
  ap : Apart [p, cn] w W
theorem RdSt.err {Z : Nat → Prop} {w : World} {p cn : Nat} {out : Value} {rem : List UInt8} {seen : List Fr} {gs : List (Nat × List UInt8)} {FA : Option Addr} {fc : Nat} {IA : Option Addr} {n c : Nat} {hb lb : List UInt8} {wr w2 : World}
    (h : RdSt Z w p cn out rem seen gs FA fc IA n c hb lb wr) {ps : List Nat} (ha : Apart ps wr w2) (hps : ∀ k ∈ ps, k = p ∨ k = w.heap.size + 1 ∨ k = w.heap.size + 1 + 1 ∨ wr.heap.size ≤ k) (hp : p < w.heap.size) (hcn : cn < w.heap.size) (hne : cn ≠ p) (s : ByteArray) :
    ErrSt w p cn FA gs.length fc s (w2.setCell ⟨w.heap.size + 1 + 1 + 1, 3, none⟩ (.iface 87 (.string s))) := by
  have ho := h.old
  refine ⟨?_, ?_, ?_, ?_⟩
  · exact (h.conn.apart ha (fun hm => by have := hps _ hm; omega)).farN (by omega) _
  · exact (ha.blk h.msg (fun hm => by have := hps _ hm; omega)).set_ 3 _
  · exact (ha.blk h.res (fun hm => by have := hps _ hm; omega)).farN (by omega) _
  · exact ((h.ap.mono (fun k _ hk => by simp at hk; simp [hk])).via ha (fun i hi hm => by have := hps _ hm; have := h.ap.size; simp; omega)).setN (.inr (by omega)) _
theorem ErrSt.next {w : World} {p cn : Nat} {FA : Option Addr} {k fc : Nat} {s : ByteArray} {W V : World} (h : ErrSt w p cn FA k fc s W) (hc : IsConn V cn p) (ha : Apart [cn] W V) (hcn : cn < w.heap.size) : ErrSt w p cn FA k fc s V :=
  ⟨hc, ha.blk h.msg (by simp; omega), ha.blk h.res (by simp; omega), h.ap.via ha (fun i _ hm => by simp at hm; simp [hm])⟩
theorem ErrSt.fin {w : World} {p cn : Nat} {FA : Option Addr} {k fc : Nat} {s : ByteArray} {W : World} (h : ErrSt w p cn FA k fc s W) :
    ReadNo w p cn (.returned (.agg #[.slice FA k fc, .int .u8 0, .bool false, .iface 87 (.string s)])) (fin4 W w.heap.size (.slice FA k fc) (.int .u8 0) (.bool false) (.iface 87 (.string s))) :=
  ⟨⟨FA, k, fc, s, rfl⟩, by
    unfold fin4
    exact (((h.ap.setN (.inr (Nat.le_refl _)) _).setN (.inr (Nat.le_refl _)) _).setN (.inr (Nat.le_refl _)) _).setN (.inr (Nat.le_refl _)) _⟩

theorem splice_all {l x : List UInt8} {k : Nat} (hl : l.length = k) (hx : x.length = k) : splice l 0 x = x := by
  unfold splice
  simp [hl, hx]
theorem rdStart {Z : Nat → Prop} {w : World} {p cn n c : Nat} {out : Value} {inb : List UInt8} {IA : Option Addr} (hp : Blk w p 36 #[.slice IA n c, out]) (hr : RB w w.heap.size IA n inb) (hc : n ≤ c ∧ n ≤ 1099511627776)
    (hoff : (∀ ad, IA = some ad → Z ad.block) ∧ (∀ b, Z b → b ≠ p)) (hcn : IsConn w cn p) :
    RdSt Z w p cn out inb [] [] none 0 IA n c [0, 0] (List.replicate 8 0) ((((w.alloc (.cells nilMsg 110)).alloc (.cells (bv [0, 0]).toArray 80)).alloc (.cells (bv (List.replicate 8 0)).toArray 81)).alloc (.cells nilMsg 110)) := by
  have b0 := (((Blk.new w 110 nilMsg).alloc (.cells (bv [0, 0]).toArray 80)).alloc (.cells (bv (List.replicate 8 0)).toArray 81)).alloc (.cells nilMsg 110)
  have b1 := ((Blk.new (w.alloc (.cells nilMsg 110)) 80 (bv [0, 0]).toArray).alloc (.cells (bv (List.replicate 8 0)).toArray 81)).alloc (.cells nilMsg 110)
  have b2 := (Blk.new ((w.alloc (.cells nilMsg 110)).alloc (.cells (bv [0, 0]).toArray 80)) 81 (bv (List.replicate 8 0)).toArray).alloc (.cells nilMsg 110)
  have b3 := Blk.new (((w.alloc (.cells nilMsg 110)).alloc (.cells (bv [0, 0]).toArray 80)).alloc (.cells (bv (List.replicate 8 0)).toArray 81)) 110 nilMsg
  have hb : Below w.heap.size w ((((w.alloc (.cells nilMsg 110)).alloc (.cells (bv [0, 0]).toArray 80)).alloc (.cells (bv (List.replicate 8 0)).toArray 81)).alloc (.cells nilMsg 110)) := below_new (below_new (below_new (below_new (Below.refl _ _))))
  have hs : ((((w.alloc (.cells nilMsg 110)).alloc (.cells (bv [0, 0]).toArray 80)).alloc (.cells (bv (List.replicate 8 0)).toArray 81)).alloc (.cells nilMsg 110)).heap.size = w.heap.size + 4 := by simp
  generalize ((((w.alloc (.cells nilMsg 110)).alloc (.cells (bv [0, 0]).toArray 80)).alloc (.cells (bv (List.replicate 8 0)).toArray 81)).alloc (.cells nilMsg 110)) = W at *
  simp only [World.size_alloc] at *
  exact ⟨hp.after hb (Nat.le_refl _), hr.below hb, hc, hoff, hcn.after hb (Nat.le_refl _), b0, b1, b2, ⟨rfl, rfl⟩, b3, World.ownsRow_nil _ _ _ _, (fun x hx => by cases hx), rfl, Apart.of_below hb, by omega⟩

set_option maxRecDepth 100000 in
set_option maxHeartbeats 8000000 in
theorem Conn_read (Z : Nat → Prop) (p cn : Nat) (IA : Option Addr) (n c : Nat) (out : Value) (inb rest : List UInt8) (fs : List Fr) (ok : Bool) (w : World) (hp : Blk w p 36 #[.slice IA n c, out]) (hr : RB w w.heap.size IA n inb) (hc : n ≤ c) (hn : n ≤ 1099511627776)
    (hoff : (∀ ad, IA = some ad → Z ad.block) ∧ (∀ b, Z b → b ≠ p)) (hcn : IsConn w cn p) (hne : cn ≠ p) (hm : Msgs rest true inb fs ok) :
    Calls Tryz.prog 41 #[.pointer (some ⟨cn, 0, none⟩)] w fun e w' =>
      (ok = true → ReadOk Z w p cn n out rest fs e w') ∧ (ok = false → ReadNo w p cn e w') := by
  have na := nil_Read ⟨p, 0, none⟩
  have ma := method_Read ⟨p, 0, none⟩
  have nt := nil_Type
  have mt := method_Type
  have hpw := hp.lt
  have hcw := hcn.lt
  go_enter Tryz.func41, Tryz.ntmps41
  go_wp2_with fail
  go_loopw [6, 7] (fun v6 v7 wr => ∃ (seen todo : List Fr) (more : Bool) (rem : List UInt8) (gs : List (Nat × List UInt8)) (FA : Option Addr) (fc : Nat) (IA2 : Option Addr) (n2 c3 : Nat) (hb lb : List UInt8),
      v6 = .bool more ∧ v7 = .bool (seen.any Fr.cmd) ∧ Hid (fs = seen ++ todo ∧ Msgs rest more rem todo ok) ∧ gs.length + n2 ≤ n ∧ Hid (RdSt Z w p cn out rem seen gs FA fc IA2 n2 c3 hb lb wr))
    (fun _ _ wr => inLen ((wr.cell? ⟨p, 0, none⟩).getD undef))
  case atStart => exact ⟨[], fs, true, inb, [], none, 0, IA, n, c, [0, 0], List.replicate 8 0, rfl, rfl, Lib.hid ⟨rfl, hm⟩, by simp, Lib.hid (rdStart hp hr ⟨hc, hn⟩ hoff hcn)⟩
  case round =>
    obtain ⟨seen, todo, more, rem, gs, FA, fc, IA2, n2, c3, hb, lb, rfl, rfl, hM, hn2, hS⟩ := hrel
    cases more
    · obtain ⟨hfs, hM⟩ := hM.out
      obtain ⟨rfl, rfl, rfl⟩ := hM.ended
      simp only [List.append_nil] at hfs
      subst hfs
      have hS := hS.out
      have m0 := hS.msg.cell 0
      have m1 := hS.msg.cell 1
      have m2 := hS.msg.cell 2
      have m3 := hS.msg.cell 3
      have f1 := hS.msg.frozen 1
      have r0 := hS.res.cell 0
      have r1 := hS.res.cell 1
      have r2 := hS.res.cell 2
      have r3 := hS.res.cell 3
      have e0 := hS.res.frozen 0
      have e1 := hS.res.frozen 1
      have e2 := hS.res.frozen 2
      have e3 := hS.res.frozen 3
      simp only [nilMsg, List.getElem?_toArray, List.getElem?_cons_zero, List.getElem?_cons_succ] at m0 m1 m2 m3 r0 r1 r2 r3
      have HS := Lib.hid hS
      clear hS hp hr hcn
      cases hany : fs.any Fr.cmd
      · go_wp2_with fail
        have hA : Apart [w.heap.size, w.heap.size + 1 + 1 + 1] wr (fin4 wr w.heap.size (.slice FA gs.length fc) (.int .u8 0) (.bool false) .nilIface) := fin4_apart (Apart.refl _ _) (by simp) _ _ _ _
        have hB := fin4_blk (HS.out.res) (.slice FA gs.length fc) (.int .u8 0) (.bool false) .nilIface (w := wr)
        have hF := HS.out.fin hA hpw hcw (by omega : n2 ≤ n)
        have k0 := hB.cell 0
        have k1 := hB.cell 1
        have k2 := hB.cell 2
        have k3 := hB.cell 3
        simp only [List.getElem?_toArray, List.getElem?_cons_zero, List.getElem?_cons_succ] at k0 k1 k2 k3
        rw [hany] at hF
        unfold fin4 at k0 k1 k2 k3 hF
        refine bodyPost_ret (v := .agg #[.slice FA gs.length fc, .int .u8 0, .bool false, .nilIface]) (by simp [results, Tryz.results41, go_sem, k0, k1, k2, k3]) rfl (by first | exact hF | exact ⟨fun _ => hF, fun h => by cases h⟩)
      · go_wp2_with fail
        have hA : Apart [w.heap.size, w.heap.size + 1 + 1 + 1] wr (fin4 (wr.setCell ⟨w.heap.size + 1 + 1 + 1, 1, none⟩ (.int .u8 1)) w.heap.size (.slice FA gs.length fc) (.int .u8 1) (.bool false) .nilIface) := fin4_apart ((Apart.refl _ _).setN (.inl (by simp)) _) (by simp) _ _ _ _
        have hB := fin4_blk (HS.out.res.farN (by omega) _) (.slice FA gs.length fc) (.int .u8 1) (.bool false) .nilIface (w := (wr.setCell ⟨w.heap.size + 1 + 1 + 1, 1, none⟩ (.int .u8 1)))
        have hF := HS.out.fin hA hpw hcw (by omega : n2 ≤ n)
        have k0 := hB.cell 0
        have k1 := hB.cell 1
        have k2 := hB.cell 2
        have k3 := hB.cell 3
        simp only [List.getElem?_toArray, List.getElem?_cons_zero, List.getElem?_cons_succ] at k0 k1 k2 k3
        rw [hany] at hF
        unfold fin4 at k0 k1 k2 k3 hF
        refine bodyPost_ret (v := .agg #[.slice FA gs.length fc, .int .u8 1, .bool false, .nilIface]) (by simp [results, Tryz.results41, go_sem, k0, k1, k2, k3]) rfl (by first | exact hF | exact ⟨fun _ => hF, fun h => by cases h⟩)
    · obtain ⟨hfs, hM⟩ := hM.out
      have hS := hS.out
      have hlen := hS.inb.len
      have hP := Lib.hid hM.parts
      have HF := Lib.hid hfs
      have hnc := hS.nc
      have HS := Lib.hid hS
      have HQ : Hid (wr.cell? ⟨p, 0, none⟩ = some (.slice IA2 n2 c3)) := Lib.hid (hS.pipe.cell 0)
      have c2 := hS.conn.rw_
      have e0 := hS.hdr.frozen 0
      clear hM hfs hp hr hcn hS
      rcases hP.out with ⟨hlt, rfl⟩ | ⟨f, hw, r1, rfl, hrest⟩
      · go_wp2_with fail
        go_region_held3 (fun V => V.cell? ⟨cn, 2, none⟩ = some (.iface 34 (.pointer (some ⟨p, 0, none⟩)))) ((first | exact c2 | assumption | exact cell_far (by assumption) (by omega) _ _))
          (first
            | (go_at_call 59
               refine (readFull_few p (w.heap.size + 1) 0 _ IA2 n2 c3 2 2 out _ _ _ HS.out.pipe.drew HS.out.hdr.drew (HS.out.inb.more HS.out.ap.size).drew (by omega) (by decide) (by rw [HS.out.hl.1]; decide) (by omega)).mono ?_
               rintro e w2 ⟨⟨s, hs, rfl⟩, ha2⟩
               have d2 := (HS.out.conn.drew.apart ha2 (by simp; omega)).rw_
               have d3 := (ha2.blk HS.out.msg.drew (by simp; omega)).cell 3
               have d4 := (ha2.blk HS.out.msg.drew (by simp; omega)).frozen 3
               simp only [List.getElem?_toArray, List.getElem?_cons_zero, List.getElem?_cons_succ] at d3))
        rename_i aK _
        refine aK _ _ ?_
        have hE := HS.out.err ((Apart.refl _ _).drew.trans ha2) (fun k hk => by simp at hk; omega) hpw hcw hne s
        generalize w2.setCell ⟨w.heap.size + 1 + 1 + 1, 3, none⟩ (.iface 87 (.string s)) = W at hE ⊢
        have m3 := hE.msg.cell 3
        simp only [List.getElem?_toArray, List.getElem?_cons_zero, List.getElem?_cons_succ] at m3
        go_wp2_with fail
        refine (checkIO cn p s W hs hE.conn).mono ?_
        rintro e w3 ⟨rfl, hc3, ha3⟩
        have hE3 := hE.next hc3 ha3 hcw
        clear m3
        have m0 := hE3.msg.cell 0
        have m1 := hE3.msg.cell 1
        have m2 := hE3.msg.cell 2
        have m3 := hE3.msg.cell 3
        have r0 := hE3.res.cell 0
        have r1 := hE3.res.cell 1
        have r2 := hE3.res.cell 2
        have r3 := hE3.res.cell 3
        have e0 := hE3.res.frozen 0
        have e1 := hE3.res.frozen 1
        have e2 := hE3.res.frozen 2
        have e3 := hE3.res.frozen 3
        simp only [nilMsg, List.getElem?_toArray, List.getElem?_cons_zero, List.getElem?_cons_succ] at m0 m1 m2 m3 r0 r1 r2 r3
        have HE := Lib.hid hE3
        clear hE hE3 hc3 ha3
        go_wp2_with fail
        have hF := HE.out.fin
        have hB := fin4_blk (w := w3) HE.out.res (.slice FA gs.length fc) (.int .u8 0) (.bool false) (.iface 87 (.string s))
        have k0 := hB.cell 0
        have k1 := hB.cell 1
        have k2 := hB.cell 2
        have k3 := hB.cell 3
        simp only [List.getElem?_toArray, List.getElem?_cons_zero, List.getElem?_cons_succ] at k0 k1 k2 k3
        unfold fin4 at k0 k1 k2 k3 hF
        refine bodyPost_ret (v := .agg #[.slice FA gs.length fc, .int .u8 0, .bool false, .iface 87 (.string s)]) (by simp [results, Tryz.results41, go_sem, k0, k1, k2, k3]) rfl (by first | exact hF | exact ⟨(fun h => by cases h), fun _ => hF⟩)
      · have hlen' : r1.length + 2 = n2 := by rw [← hlen]; simp
        have hfl := Lib.hid hw
        go_wp2_with fail
        go_region_held3 (fun V => V.cell? ⟨cn, 2, none⟩ = some (.iface 34 (.pointer (some ⟨p, 0, none⟩)))) ((first | exact c2 | assumption | exact cell_far (by assumption) (by omega) _ _))
          (first
            | (go_at_call 59
               refine (readFull_ok p (w.heap.size + 1) 0 _ IA2 n2 c3 2 2 out _ [flagV (longF f) f.cmd f.more, secF f] r1 _ HS.out.pipe.drew HS.out.hdr.drew (HS.out.inb.more HS.out.ap.size).drew rfl hnc.2 (by rw [HS.out.hl.1]; decide) (by omega)).mono ?_
               rintro e w2 ⟨rfl, hh2, ⟨IA4, c4, hp2, hrb, hnc4, hoff4⟩, ha2, hs2⟩
               have d2 := (HS.out.conn.drew.apart ha2 (by simp; omega)).rw_
               have d3 := (ha2.blk HS.out.msg.drew (by simp; omega)).cell 3
               have d4 := (ha2.blk HS.out.msg.drew (by simp; omega)).frozen 3
               simp only [List.getElem?_toArray, List.getElem?_cons_zero, List.getElem?_cons_succ] at d3))
        rename_i aK _
        refine aK _ _ ?_
        rw [splice_all HS.out.hl.1 rfl] at hh2
        have hS2 := (HS.out.next ((Apart.refl _ _).drew.trans ha2) (fun k hk => by simp at hk; omega) hpw hcw hne hp2 (fun h => hrb _ _ h hnc.1) ⟨hnc4 hnc.1, by omega⟩ hoff4 hh2 ((Apart.refl _ _).drew.trans ha2 |>.blk HS.out.lng (by simp; omega)) ⟨rfl, HS.out.hl.2⟩).nilErr hpw hcw
        generalize w2.setCell ⟨w.heap.size + 1 + 1 + 1, 3, none⟩ .nilIface = W at hS2 ⊢
        clear hh2 hp2 hrb hnc4 hoff4 ha2 hs2 d2 d3 d4 c2 e0
        have HS2 := Lib.hid hS2
        have m3 := hS2.msg.cell 3
        have g0 := hS2.hdr.cell (i := 0) (by simp)
        have g1 := hS2.hdr.cell (i := 1) (by simp)
        simp only [List.getElem?_toArray, List.getElem?_cons_zero, List.getElem?_cons_succ, List.getD_cons_zero, List.getD_cons_succ] at m3 g0 g1
        clear hS2 HS
        rcases hrest with ⟨hs, htail⟩ | ⟨hl, htail⟩
        · have hsec : (secF f).toNat = f.n := by unfold secF; rw [if_neg hs]; simp; omega
          have hlg : longF f = false := decide_eq_false hs
          rw [hsec] at g1
          rw [hlg] at g0
          have hfn : f.n ≤ 255 := by omega
          have HT := Lib.hid htail
          have hmk := makeN f.n (by omega)
          have hpW := HS2.out.pipe.lt
          have hoW := HS2.out.old
          have c2 := HS2.out.conn.rw_
          have d2 := (HS2.out.conn.alloc (.cells (bv (noughts f.n)).toArray 5)).rw_
          clear hsec htail hs
          cases hany : seen.any Fr.cmd
          · skip
            go_wp2_with fail
            refine (hasMore false f.cmd f.more W).mono ?_
            rintro e w' ⟨rfl, rfl⟩
            go_wp2_with fail
            refine (isCommand false f.cmd f.more W).mono ?_
            rintro e w' ⟨rfl, rfl⟩
            go_wp2_with fail
            refine (isLong false f.cmd f.more W).mono ?_
            rintro e w' ⟨rfl, rfl⟩
            go_wp2_with fail
            clear g0 g1
            rcases HT.out with ⟨hlt, rfl⟩ | ⟨r2, todo2, rfl, htodo, hM2⟩
            · refine (readFull_few p W.heap.size 0 _ IA4 (n2 - 2) c4 f.n f.n out _ _ _ (HS2.out.pipe.alloc _) (BB.mk W 5 (noughts f.n)) ((HS2.out.inb.more HS2.out.ap.size).new _) (by omega) (by omega) (by simp [noughts]) (by omega)).mono ?_
              rintro e w2' ⟨⟨s, hs, rfl⟩, ha2⟩
              have ha3 := ((Apart.refl [W.heap.size, p] W).alloc (.cells (bv (noughts f.n)).toArray 5)).trans ha2
              have hE := HS2.out.err ha3 (fun k hk => by simp at hk; omega) hpw hcw hne s
              have d3 := (ha3.blk HS2.out.msg (by simp; omega)).cell 3
              have d4 := (ha3.blk HS2.out.msg (by simp; omega)).frozen 3
              simp only [List.getElem?_toArray, List.getElem?_cons_zero, List.getElem?_cons_succ] at d3
              clear ha2 ha3 c2 d2 hmk m3
              go_wp2_with fail
              refine (checkIO cn p s _ hs hE.conn).mono ?_
              rintro e w3 ⟨rfl, hc3, ha3⟩
              have hE3 := hE.next hc3 ha3 hcw
              have m0 := hE3.msg.cell 0
              have m1 := hE3.msg.cell 1
              have m2 := hE3.msg.cell 2
              have m3 := hE3.msg.cell 3
              have r0 := hE3.res.cell 0
              have r1 := hE3.res.cell 1
              have r2 := hE3.res.cell 2
              have r3 := hE3.res.cell 3
              have e0 := hE3.res.frozen 0
              have e1 := hE3.res.frozen 1
              have e2 := hE3.res.frozen 2
              have e3 := hE3.res.frozen 3
              simp only [nilMsg, List.getElem?_toArray, List.getElem?_cons_zero, List.getElem?_cons_succ] at m0 m1 m2 m3 r0 r1 r2 r3
              have HE := Lib.hid hE3
              clear hE hE3 hc3 ha3 d3 d4
              go_wp2_with fail
              have hF := HE.out.fin
              have hB := fin4_blk (w := w3) HE.out.res (.slice FA gs.length fc) (.int .u8 0) (.bool false) (.iface 87 (.string s))
              have k0 := hB.cell 0
              have k1 := hB.cell 1
              have k2 := hB.cell 2
              have k3 := hB.cell 3
              simp only [List.getElem?_toArray, List.getElem?_cons_zero, List.getElem?_cons_succ] at k0 k1 k2 k3
              unfold fin4 at k0 k1 k2 k3 hF
              refine bodyPost_ret (v := .agg #[.slice FA gs.length fc, .int .u8 0, .bool false, .iface 87 (.string s)]) (by simp [results, Tryz.results41, go_sem, k0, k1, k2, k3]) rfl (by first | exact hF | exact ⟨(fun h => by cases h), fun _ => hF⟩)
            · refine (readFull_ok p W.heap.size 0 _ IA4 (n2 - 2) c4 f.n f.n out _ f.body r2 _ (HS2.out.pipe.alloc _) (BB.mk W 5 (noughts f.n)) ((HS2.out.inb.more HS2.out.ap.size).new _) hfl.out.1 (by omega) (by simp [noughts]) (by omega)).mono ?_
              rintro e w2' ⟨rfl, hh2, ⟨IA5, c5, hp2, hrb, hnc5, hoff5⟩, ha2, hs2⟩
              rw [splice_all (by simp [noughts]) hfl.out.1] at hh2
              have ha3 := ((Apart.refl [W.heap.size, p] W).alloc (.cells (bv (noughts f.n)).toArray 5)).trans ha2
              have hS3 := (HS2.out.next ha3 (fun k hk => by simp at hk; omega) hpw hcw hne hp2 (fun h => hrb _ _ h HS2.out.nc.1) ⟨hnc5 HS2.out.nc.1, by omega⟩ hoff5 (ha3.blk HS2.out.hdr (by simp; omega)) (ha3.blk HS2.out.lng (by simp; omega)) HS2.out.hl)
              have d3 := hS3.msg.cell 3
              have d4 := hS3.msg.frozen 3
              simp only [List.getElem?_toArray, List.getElem?_cons_zero, List.getElem?_cons_succ] at d3
              have hS4 := hS3.nilErr hpw hcw
              have HB := Lib.hid (BB.farN hh2 (b := w.heap.size + 1 + 1 + 1) (o := 3) (by omega) .nilIface)
              have c3' := hS4.conn.sec
              have HS4 := Lib.hid hS4
              clear hS3 hS4 ha2 ha3 c2 d2 hmk m3 hp2 hrb hnc5 hoff5 hh2 hs2
              go_wp2_with fail
              refine (secType _).mono ?_
              rintro e w4 ⟨rfl, hb4⟩
              have hS5 := HS4.out.below_ hb4 hpw hcw hne
              have hd5 : BB w4 W.heap.size 5 f.body := BB.after HB.out hb4 (Nat.le_refl _)
              have d5 := hS5.msg.cell 0
              have d6 := ((hS5.msg.alloc (.cells #[.slice (some ⟨W.heap.size, 0, none⟩) f.n f.n] 23))).frozen 0
              simp only [List.getElem?_toArray, List.getElem?_cons_zero] at d5
              have hsrc := srcNew elBytes (w := w4) #[.slice (some ⟨W.heap.size, 0, none⟩) f.n f.n] rfl (by intro u hu; simp at hu; subst hu; rfl)
              have HS9 := Lib.hid hS5
              have hHW := hS5.old
              clear hS5 d3 d4 c3'
              go_wp2_with (first
                | (at_builtin
                   refine wpl_appT rfl elBytes (.tmp 101) (.tmp 103) 73 rfl (w.heap.size + 4) _ gs.length _ _ rfl (HS9.out.own.alloc _) _ 1 _ rfl hsrc (gs.length + 1) rfl (by omega) (by decide) (by simp; omega) ?_
                   intro A6 c6 w6 ho6 hg6 ha6
                   have d7 := (HS9.out.msg.alloc (.cells #[.slice (some ⟨W.heap.size, 0, none⟩) f.n f.n] 23)).grown hg6 (row_ne (HS9.out.own) (by omega))
                   have d8 := d7.cell 0
                   have d9 := d7.frozen 0
                   simp only [List.getElem?_toArray, List.getElem?_cons_zero] at d8))
              have hbl := hfl.out.1
              rw [← hbl] at ho6
              have hP6 := HS9.out.push hpw hcw hd5 hoW hg6 ho6
              go_roundw
              case rel =>
                refine ⟨seen ++ [f], todo2, f.more, r2, gs ++ [(W.heap.size, f.body)], A6, c6, IA5, (n2 - 2) - f.n, c5, [flagV (longF f) f.cmd f.more, secF f], lb, rfl, ?_, Lib.hid ⟨by rw [HF.out, htodo]; simp, hM2⟩, ?_, Lib.hid hP6⟩
                · rw [List.any_append, hany]; simp
                · simp; omega
              case measure =>
                rw [HQ.out, show (w6.setCell ⟨w.heap.size + 1 + 1 + 1, 0, none⟩ (.slice A6 (gs.length + 1) c6)).cell? ⟨p, 0, none⟩ = some (.slice IA5 ((n2 - 2) - f.n) c5) from hP6.pipe.cell 0]
                simp only [Option.getD_some, inLen]
                omega
          · skip
            go_wp2_with fail
            refine (hasMore false f.cmd f.more W).mono ?_
            rintro e w' ⟨rfl, rfl⟩
            go_wp2_with fail
            refine (isLong false f.cmd f.more W).mono ?_
            rintro e w' ⟨rfl, rfl⟩
            go_wp2_with fail
            clear g0 g1
            rcases HT.out with ⟨hlt, rfl⟩ | ⟨r2, todo2, rfl, htodo, hM2⟩
            · refine (readFull_few p W.heap.size 0 _ IA4 (n2 - 2) c4 f.n f.n out _ _ _ (HS2.out.pipe.alloc _) (BB.mk W 5 (noughts f.n)) ((HS2.out.inb.more HS2.out.ap.size).new _) (by omega) (by omega) (by simp [noughts]) (by omega)).mono ?_
              rintro e w2' ⟨⟨s, hs, rfl⟩, ha2⟩
              have ha3 := ((Apart.refl [W.heap.size, p] W).alloc (.cells (bv (noughts f.n)).toArray 5)).trans ha2
              have hE := HS2.out.err ha3 (fun k hk => by simp at hk; omega) hpw hcw hne s
              have d3 := (ha3.blk HS2.out.msg (by simp; omega)).cell 3
              have d4 := (ha3.blk HS2.out.msg (by simp; omega)).frozen 3
              simp only [List.getElem?_toArray, List.getElem?_cons_zero, List.getElem?_cons_succ] at d3
              clear ha2 ha3 c2 d2 hmk m3
              go_wp2_with fail
              refine (checkIO cn p s _ hs hE.conn).mono ?_
              rintro e w3 ⟨rfl, hc3, ha3⟩
              have hE3 := hE.next hc3 ha3 hcw
              have m0 := hE3.msg.cell 0
              have m1 := hE3.msg.cell 1
              have m2 := hE3.msg.cell 2
              have m3 := hE3.msg.cell 3
              have r0 := hE3.res.cell 0
              have r1 := hE3.res.cell 1
              have r2 := hE3.res.cell 2
              have r3 := hE3.res.cell 3
              have e0 := hE3.res.frozen 0
              have e1 := hE3.res.frozen 1
              have e2 := hE3.res.frozen 2
              have e3 := hE3.res.frozen 3
              simp only [nilMsg, List.getElem?_toArray, List.getElem?_cons_zero, List.getElem?_cons_succ] at m0 m1 m2 m3 r0 r1 r2 r3
              have HE := Lib.hid hE3
              clear hE hE3 hc3 ha3 d3 d4
              go_wp2_with fail
              have hF := HE.out.fin
              have hB := fin4_blk (w := w3) HE.out.res (.slice FA gs.length fc) (.int .u8 0) (.bool false) (.iface 87 (.string s))
              have k0 := hB.cell 0
              have k1 := hB.cell 1
              have k2 := hB.cell 2
              have k3 := hB.cell 3
              simp only [List.getElem?_toArray, List.getElem?_cons_zero, List.getElem?_cons_succ] at k0 k1 k2 k3
              unfold fin4 at k0 k1 k2 k3 hF
              refine bodyPost_ret (v := .agg #[.slice FA gs.length fc, .int .u8 0, .bool false, .iface 87 (.string s)]) (by simp [results, Tryz.results41, go_sem, k0, k1, k2, k3]) rfl (by first | exact hF | exact ⟨(fun h => by cases h), fun _ => hF⟩)
            · refine (readFull_ok p W.heap.size 0 _ IA4 (n2 - 2) c4 f.n f.n out _ f.body r2 _ (HS2.out.pipe.alloc _) (BB.mk W 5 (noughts f.n)) ((HS2.out.inb.more HS2.out.ap.size).new _) hfl.out.1 (by omega) (by simp [noughts]) (by omega)).mono ?_
              rintro e w2' ⟨rfl, hh2, ⟨IA5, c5, hp2, hrb, hnc5, hoff5⟩, ha2, hs2⟩
              rw [splice_all (by simp [noughts]) hfl.out.1] at hh2
              have ha3 := ((Apart.refl [W.heap.size, p] W).alloc (.cells (bv (noughts f.n)).toArray 5)).trans ha2
              have hS3 := (HS2.out.next ha3 (fun k hk => by simp at hk; omega) hpw hcw hne hp2 (fun h => hrb _ _ h HS2.out.nc.1) ⟨hnc5 HS2.out.nc.1, by omega⟩ hoff5 (ha3.blk HS2.out.hdr (by simp; omega)) (ha3.blk HS2.out.lng (by simp; omega)) HS2.out.hl)
              have d3 := hS3.msg.cell 3
              have d4 := hS3.msg.frozen 3
              simp only [List.getElem?_toArray, List.getElem?_cons_zero, List.getElem?_cons_succ] at d3
              have hS4 := hS3.nilErr hpw hcw
              have HB := Lib.hid (BB.farN hh2 (b := w.heap.size + 1 + 1 + 1) (o := 3) (by omega) .nilIface)
              have c3' := hS4.conn.sec
              have HS4 := Lib.hid hS4
              clear hS3 hS4 ha2 ha3 c2 d2 hmk m3 hp2 hrb hnc5 hoff5 hh2 hs2
              go_wp2_with fail
              refine (secType _).mono ?_
              rintro e w4 ⟨rfl, hb4⟩
              have hS5 := HS4.out.below_ hb4 hpw hcw hne
              have hd5 : BB w4 W.heap.size 5 f.body := BB.after HB.out hb4 (Nat.le_refl _)
              have d5 := hS5.msg.cell 0
              have d6 := ((hS5.msg.alloc (.cells #[.slice (some ⟨W.heap.size, 0, none⟩) f.n f.n] 23))).frozen 0
              simp only [List.getElem?_toArray, List.getElem?_cons_zero] at d5
              have hsrc := srcNew elBytes (w := w4) #[.slice (some ⟨W.heap.size, 0, none⟩) f.n f.n] rfl (by intro u hu; simp at hu; subst hu; rfl)
              have HS9 := Lib.hid hS5
              have hHW := hS5.old
              clear hS5 d3 d4 c3'
              go_wp2_with (first
                | (at_builtin
                   refine wpl_appT rfl elBytes (.tmp 101) (.tmp 103) 73 rfl (w.heap.size + 4) _ gs.length _ _ rfl (HS9.out.own.alloc _) _ 1 _ rfl hsrc (gs.length + 1) rfl (by omega) (by decide) (by simp; omega) ?_
                   intro A6 c6 w6 ho6 hg6 ha6
                   have d7 := (HS9.out.msg.alloc (.cells #[.slice (some ⟨W.heap.size, 0, none⟩) f.n f.n] 23)).grown hg6 (row_ne (HS9.out.own) (by omega))
                   have d8 := d7.cell 0
                   have d9 := d7.frozen 0
                   simp only [List.getElem?_toArray, List.getElem?_cons_zero] at d8))
              have hbl := hfl.out.1
              rw [← hbl] at ho6
              have hP6 := HS9.out.push hpw hcw hd5 hoW hg6 ho6
              go_roundw
              case rel =>
                refine ⟨seen ++ [f], todo2, f.more, r2, gs ++ [(W.heap.size, f.body)], A6, c6, IA5, (n2 - 2) - f.n, c5, [flagV (longF f) f.cmd f.more, secF f], lb, rfl, ?_, Lib.hid ⟨by rw [HF.out, htodo]; simp, hM2⟩, ?_, Lib.hid hP6⟩
                · rw [List.any_append, hany]; simp
                · simp; omega
              case measure =>
                rw [HQ.out, show (w6.setCell ⟨w.heap.size + 1 + 1 + 1, 0, none⟩ (.slice A6 (gs.length + 1) c6)).cell? ⟨p, 0, none⟩ = some (.slice IA5 ((n2 - 2) - f.n) c5) from hP6.pipe.cell 0]
                simp only [Option.getD_some, inLen]
                omega
        · have hsec : (secF f).toNat = 0 := by unfold secF; rw [if_pos hl]; rfl
          have hlg : longF f = true := decide_eq_true hl
          rw [hsec] at g1
          rw [hlg] at g0
          have g1' : W.cell? ⟨w.heap.size + 1, 1, none⟩ = some (.int .u8 0) := g1
          have hfn : f.n ≤ 1000 := hfl.out.2
          have HT := Lib.hid htail
          have hpW := HS2.out.pipe.lt
          have hoW := HS2.out.old
          have l0 := HS2.out.lng.cell (i := 0) (by rw [HS2.out.hl.2]; decide)
          have fl0 := HS2.out.lng.frozen 0
          clear hsec htail hl g1
          cases hany : seen.any Fr.cmd
          · skip
            go_wp2_with fail
            refine (hasMore true f.cmd f.more W).mono ?_
            rintro e w' ⟨rfl, rfl⟩
            go_wp2_with fail
            refine (isCommand true f.cmd f.more W).mono ?_
            rintro e w' ⟨rfl, rfl⟩
            go_wp2_with fail
            refine (isLong true f.cmd f.more W).mono ?_
            rintro e w' ⟨rfl, rfl⟩
            go_wp2_with fail
            have hS5 := HS2.out.lng0 hpw hcw hne 0
            have h5 : W.setCell ⟨w.heap.size + 1 + 1, 0, none⟩ (.int .u8 ((0 : UInt8).toNat : Int)) = W.setCell ⟨w.heap.size + 1 + 1, 0, none⟩ (.int .u8 0) := rfl
            rw [h5] at hS5
            clear h5 m3 g0 g1' l0 fl0
            generalize W.setCell ⟨w.heap.size + 1 + 1, 0, none⟩ (.int .u8 0) = W5 at hS5 ⊢
            have HS5 := Lib.hid hS5
            have c2 := hS5.conn.rw_
            have hpW5 := hS5.pipe.lt
            have hoW5 := hS5.old
            clear hS5
            rcases HT.out with ⟨hlt, rfl⟩ | ⟨r2, rfl, htail2⟩
            · go_region_held3 (fun V => V.cell? ⟨cn, 2, none⟩ = some (.iface 34 (.pointer (some ⟨p, 0, none⟩)))) ((first | exact c2 | assumption | exact cell_far (by assumption) (by omega) _ _))
                (first
                  | (go_at_call 59
                     refine (readFull_few p (w.heap.size + 1 + 1) 1 _ IA4 (n2 - 2) c4 7 7 out _ _ _ HS5.out.pipe.drew HS5.out.lng.drew (HS5.out.inb.more HS5.out.ap.size).drew (by omega) (by decide) (by rw [HS5.out.hl.2]; decide) (by omega)).mono ?_
                     rintro e w2 ⟨⟨s, hs, rfl⟩, ha2⟩
                     have d2 := (HS5.out.conn.drew.apart ha2 (by simp; omega)).rw_
                     have d3 := (ha2.blk HS5.out.msg.drew (by simp; omega)).cell 3
                     have d4 := (ha2.blk HS5.out.msg.drew (by simp; omega)).frozen 3
                     simp only [List.getElem?_toArray, List.getElem?_cons_zero, List.getElem?_cons_succ] at d3))
              rename_i aK _
              refine aK _ _ ?_
              have hE := HS5.out.err ((Apart.refl _ _).drew.trans ha2) (fun k hk => by simp at hk; omega) hpw hcw hne s
              clear d2 d3 d4 ha2 c2
              generalize w2.setCell ⟨w.heap.size + 1 + 1 + 1, 3, none⟩ (.iface 87 (.string s)) = W at hE ⊢
              have m3 := hE.msg.cell 3
              simp only [List.getElem?_toArray, List.getElem?_cons_zero, List.getElem?_cons_succ] at m3
              go_wp2_with fail
              refine (checkIO cn p s W hs hE.conn).mono ?_
              rintro e w3 ⟨rfl, hc3, ha3⟩
              have hE3 := hE.next hc3 ha3 hcw
              clear m3
              have m0 := hE3.msg.cell 0
              have m1 := hE3.msg.cell 1
              have m2 := hE3.msg.cell 2
              have m3 := hE3.msg.cell 3
              have r0 := hE3.res.cell 0
              have r1 := hE3.res.cell 1
              have r2 := hE3.res.cell 2
              have r3 := hE3.res.cell 3
              have e0 := hE3.res.frozen 0
              have e1 := hE3.res.frozen 1
              have e2 := hE3.res.frozen 2
              have e3 := hE3.res.frozen 3
              simp only [nilMsg, List.getElem?_toArray, List.getElem?_cons_zero, List.getElem?_cons_succ] at m0 m1 m2 m3 r0 r1 r2 r3
              have HE := Lib.hid hE3
              clear hE hE3 hc3 ha3
              go_wp2_with fail
              have hF := HE.out.fin
              have hB := fin4_blk (w := w3) HE.out.res (.slice FA gs.length fc) (.int .u8 0) (.bool false) (.iface 87 (.string s))
              have k0 := hB.cell 0
              have k1 := hB.cell 1
              have k2 := hB.cell 2
              have k3 := hB.cell 3
              simp only [List.getElem?_toArray, List.getElem?_cons_zero, List.getElem?_cons_succ] at k0 k1 k2 k3
              unfold fin4 at k0 k1 k2 k3 hF
              refine bodyPost_ret (v := .agg #[.slice FA gs.length fc, .int .u8 0, .bool false, .iface 87 (.string s)]) (by simp [results, Tryz.results41, go_sem, k0, k1, k2, k3]) rfl (by first | exact hF | exact ⟨(fun h => by cases h), fun _ => hF⟩)
            · have hl2 : r2.length + 7 = n2 - 2 := by simp [seven] at hlen'; omega
              go_region_held3 (fun V => V.cell? ⟨cn, 2, none⟩ = some (.iface 34 (.pointer (some ⟨p, 0, none⟩)))) ((first | exact c2 | assumption | exact cell_far (by assumption) (by omega) _ _))
                (first
                  | (go_at_call 59
                     refine (readFull_ok p (w.heap.size + 1 + 1) 1 _ IA4 (n2 - 2) c4 7 7 out _ (seven f.n) r2 _ HS5.out.pipe.drew HS5.out.lng.drew (HS5.out.inb.more HS5.out.ap.size).drew rfl (by omega) (by rw [HS5.out.hl.2]; decide) (by omega)).mono ?_
                     rintro e w2 ⟨rfl, hh2, ⟨IA7, c7, hp2, hrb, hnc7, hoff7⟩, ha2, hs2⟩
                     have d2 := (HS5.out.conn.drew.apart ha2 (by simp; omega)).rw_
                     have d3 := (ha2.blk HS5.out.msg.drew (by simp; omega)).cell 3
                     have d4 := (ha2.blk HS5.out.msg.drew (by simp; omega)).frozen 3
                     simp only [List.getElem?_toArray, List.getElem?_cons_zero, List.getElem?_cons_succ] at d3))
              rename_i aK _
              refine aK _ _ ?_
              rw [splice_be8 HS2.out.hl.2] at hh2
              have hS6 := (HS5.out.next ((Apart.refl _ _).drew.trans ha2) (fun k hk => by simp at hk; omega) hpw hcw hne hp2 (fun h => hrb _ _ h HS5.out.nc.1) ⟨hnc7 HS5.out.nc.1, by omega⟩ hoff7 ((Apart.refl _ _).drew.trans ha2 |>.blk HS5.out.hdr (by simp; omega)) hh2 ⟨HS5.out.hl.1, rfl⟩).nilErr hpw hcw
              generalize w2.setCell ⟨w.heap.size + 1 + 1 + 1, 3, none⟩ .nilIface = W6 at hS6 ⊢
              clear hh2 hp2 hrb hnc7 hoff7 ha2 hs2 d2 d3 d4 c2
              have HS6 := Lib.hid hS6
              have m3 := hS6.msg.cell 3
              simp only [List.getElem?_toArray, List.getElem?_cons_zero, List.getElem?_cons_succ] at m3
              clear hS6
              go_wp2_with fail
              refine (beUint64 (w.heap.size + 1 + 1) 8 f.n _ W6 (by omega) HS6.out.lng (by decide)).mono ?_
              rintro e W8 ⟨rfl, ha8, hs8⟩
              have hS8 := HS6.out.apart0 ha8 hpw hcw hne
              have HS8 := Lib.hid hS8
              have HT8 := Lib.hid htail2
              have hmk := makeN f.n (by omega)
              have hpW8 := hS8.pipe.lt
              have hoW8 := hS8.old
              have c2 := hS8.conn.rw_
              have d2 := (hS8.conn.alloc (.cells (bv (noughts f.n)).toArray 5)).rw_
              clear hS8 ha8 htail2 hs8
              go_wp2_with fail
              rcases HT8.out with ⟨hlt, rfl⟩ | ⟨r3, todo2, rfl, htodo, hM2⟩
              · refine (readFull_few p W8.heap.size 0 _ IA7 (n2 - 2 - 7) c7 f.n f.n out _ _ _ (HS8.out.pipe.alloc _) (BB.mk W8 5 (noughts f.n)) ((HS8.out.inb.more HS8.out.ap.size).new _) (by omega) (by omega) (by simp [noughts]) (by omega)).mono ?_
                rintro e w2' ⟨⟨s, hs, rfl⟩, ha2⟩
                have ha3 := ((Apart.refl [W8.heap.size, p] W8).alloc (.cells (bv (noughts f.n)).toArray 5)).trans ha2
                have hE := HS8.out.err ha3 (fun k hk => by simp at hk; omega) hpw hcw hne s
                have d3 := (ha3.blk HS8.out.msg (by simp; omega)).cell 3
                have d4 := (ha3.blk HS8.out.msg (by simp; omega)).frozen 3
                simp only [List.getElem?_toArray, List.getElem?_cons_zero, List.getElem?_cons_succ] at d3
                clear ha2 ha3 c2 d2 hmk m3
                go_wp2_with fail
                refine (checkIO cn p s _ hs hE.conn).mono ?_
                rintro e w3 ⟨rfl, hc3, ha3⟩
                have hE3 := hE.next hc3 ha3 hcw
                have m0 := hE3.msg.cell 0
                have m1 := hE3.msg.cell 1
                have m2 := hE3.msg.cell 2
                have m3 := hE3.msg.cell 3
                have r0 := hE3.res.cell 0
                have r1 := hE3.res.cell 1
                have r2 := hE3.res.cell 2
                have r3 := hE3.res.cell 3
                have e0 := hE3.res.frozen 0
                have e1 := hE3.res.frozen 1
                have e2 := hE3.res.frozen 2
                have e3 := hE3.res.frozen 3
                simp only [nilMsg, List.getElem?_toArray, List.getElem?_cons_zero, List.getElem?_cons_succ] at m0 m1 m2 m3 r0 r1 r2 r3
                have HE := Lib.hid hE3
                clear hE hE3 hc3 ha3 d3 d4
                go_wp2_with fail
                have hF := HE.out.fin
                have hB := fin4_blk (w := w3) HE.out.res (.slice FA gs.length fc) (.int .u8 0) (.bool false) (.iface 87 (.string s))
                have k0 := hB.cell 0
                have k1 := hB.cell 1
                have k2 := hB.cell 2
                have k3 := hB.cell 3
                simp only [List.getElem?_toArray, List.getElem?_cons_zero, List.getElem?_cons_succ] at k0 k1 k2 k3
                unfold fin4 at k0 k1 k2 k3 hF
                refine bodyPost_ret (v := .agg #[.slice FA gs.length fc, .int .u8 0, .bool false, .iface 87 (.string s)]) (by simp [results, Tryz.results41, go_sem, k0, k1, k2, k3]) rfl (by first | exact hF | exact ⟨(fun h => by cases h), fun _ => hF⟩)
              · refine (readFull_ok p W8.heap.size 0 _ IA7 (n2 - 2 - 7) c7 f.n f.n out _ f.body r3 _ (HS8.out.pipe.alloc _) (BB.mk W8 5 (noughts f.n)) ((HS8.out.inb.more HS8.out.ap.size).new _) hfl.out.1 (by omega) (by simp [noughts]) (by omega)).mono ?_
                rintro e w2' ⟨rfl, hh2, ⟨IA5, c5, hp2, hrb, hnc5, hoff5⟩, ha2, hs2⟩
                rw [splice_all (by simp [noughts]) hfl.out.1] at hh2
                have ha3 := ((Apart.refl [W8.heap.size, p] W8).alloc (.cells (bv (noughts f.n)).toArray 5)).trans ha2
                have hS3 := (HS8.out.next ha3 (fun k hk => by simp at hk; omega) hpw hcw hne hp2 (fun h => hrb _ _ h HS8.out.nc.1) ⟨hnc5 HS8.out.nc.1, by omega⟩ hoff5 (ha3.blk HS8.out.hdr (by simp; omega)) (ha3.blk HS8.out.lng (by simp; omega)) HS8.out.hl)
                have d3 := hS3.msg.cell 3
                have d4 := hS3.msg.frozen 3
                simp only [List.getElem?_toArray, List.getElem?_cons_zero, List.getElem?_cons_succ] at d3
                have hS4 := hS3.nilErr hpw hcw
                have HB := Lib.hid (BB.farN hh2 (b := w.heap.size + 1 + 1 + 1) (o := 3) (by omega) .nilIface)
                have c3' := hS4.conn.sec
                have HS4 := Lib.hid hS4
                clear hS3 hS4 ha2 ha3 c2 d2 hmk m3 hp2 hrb hnc5 hoff5 hh2 hs2
                go_wp2_with fail
                refine (secType _).mono ?_
                rintro e w4 ⟨rfl, hb4⟩
                have hS5 := HS4.out.below_ hb4 hpw hcw hne
                have hd5 : BB w4 W8.heap.size 5 f.body := BB.after HB.out hb4 (Nat.le_refl _)
                have d5 := hS5.msg.cell 0
                have d6 := ((hS5.msg.alloc (.cells #[.slice (some ⟨W8.heap.size, 0, none⟩) f.n f.n] 23))).frozen 0
                simp only [List.getElem?_toArray, List.getElem?_cons_zero] at d5
                have hsrc := srcNew elBytes (w := w4) #[.slice (some ⟨W8.heap.size, 0, none⟩) f.n f.n] rfl (by intro u hu; simp at hu; subst hu; rfl)
                have HS9 := Lib.hid hS5
                have hHW := hS5.old
                clear hS5 d3 d4 c3'
                go_wp2_with (first
                  | (at_builtin
                     refine wpl_appT rfl elBytes (.tmp 101) (.tmp 103) 73 rfl (w.heap.size + 4) _ gs.length _ _ rfl (HS9.out.own.alloc _) _ 1 _ rfl hsrc (gs.length + 1) rfl (by omega) (by decide) (by simp; omega) ?_
                     intro A6 c6 w6 ho6 hg6 ha6
                     have d7 := (HS9.out.msg.alloc (.cells #[.slice (some ⟨W8.heap.size, 0, none⟩) f.n f.n] 23)).grown hg6 (row_ne (HS9.out.own) (by omega))
                     have d8 := d7.cell 0
                     have d9 := d7.frozen 0
                     simp only [List.getElem?_toArray, List.getElem?_cons_zero] at d8))
                have hbl := hfl.out.1
                rw [← hbl] at ho6
                have hP6 := HS9.out.push hpw hcw hd5 hoW8 hg6 ho6
                go_roundw
                case rel =>
                  refine ⟨seen ++ [f], todo2, f.more, r3, gs ++ [(W8.heap.size, f.body)], A6, c6, IA5, (n2 - 2 - 7) - f.n, c5, [flagV (longF f) f.cmd f.more, secF f], be8 f.n, rfl, ?_, Lib.hid ⟨by rw [HF.out, htodo]; simp, hM2⟩, ?_, Lib.hid hP6⟩
                  · rw [List.any_append, hany]; simp
                  · simp; omega
                case measure =>
                  rw [HQ.out, show (w6.setCell ⟨w.heap.size + 1 + 1 + 1, 0, none⟩ (.slice A6 (gs.length + 1) c6)).cell? ⟨p, 0, none⟩ = some (.slice IA5 ((n2 - 2 - 7) - f.n) c5) from hP6.pipe.cell 0]
                  simp only [Option.getD_some, inLen]
                  omega
          · skip
            go_wp2_with fail
            refine (hasMore true f.cmd f.more W).mono ?_
            rintro e w' ⟨rfl, rfl⟩
            go_wp2_with fail
            refine (isLong true f.cmd f.more W).mono ?_
            rintro e w' ⟨rfl, rfl⟩
            go_wp2_with fail
            have hS5 := HS2.out.lng0 hpw hcw hne 0
            have h5 : W.setCell ⟨w.heap.size + 1 + 1, 0, none⟩ (.int .u8 ((0 : UInt8).toNat : Int)) = W.setCell ⟨w.heap.size + 1 + 1, 0, none⟩ (.int .u8 0) := rfl
            rw [h5] at hS5
            clear h5 m3 g0 g1' l0 fl0
            generalize W.setCell ⟨w.heap.size + 1 + 1, 0, none⟩ (.int .u8 0) = W5 at hS5 ⊢
            have HS5 := Lib.hid hS5
            have c2 := hS5.conn.rw_
            have hpW5 := hS5.pipe.lt
            have hoW5 := hS5.old
            clear hS5
            rcases HT.out with ⟨hlt, rfl⟩ | ⟨r2, rfl, htail2⟩
            · go_region_held3 (fun V => V.cell? ⟨cn, 2, none⟩ = some (.iface 34 (.pointer (some ⟨p, 0, none⟩)))) ((first | exact c2 | assumption | exact cell_far (by assumption) (by omega) _ _))
                (first
                  | (go_at_call 59
                     refine (readFull_few p (w.heap.size + 1 + 1) 1 _ IA4 (n2 - 2) c4 7 7 out _ _ _ HS5.out.pipe.drew HS5.out.lng.drew (HS5.out.inb.more HS5.out.ap.size).drew (by omega) (by decide) (by rw [HS5.out.hl.2]; decide) (by omega)).mono ?_
                     rintro e w2 ⟨⟨s, hs, rfl⟩, ha2⟩
                     have d2 := (HS5.out.conn.drew.apart ha2 (by simp; omega)).rw_
                     have d3 := (ha2.blk HS5.out.msg.drew (by simp; omega)).cell 3
                     have d4 := (ha2.blk HS5.out.msg.drew (by simp; omega)).frozen 3
                     simp only [List.getElem?_toArray, List.getElem?_cons_zero, List.getElem?_cons_succ] at d3))
              rename_i aK _
              refine aK _ _ ?_
              have hE := HS5.out.err ((Apart.refl _ _).drew.trans ha2) (fun k hk => by simp at hk; omega) hpw hcw hne s
              clear d2 d3 d4 ha2 c2
              generalize w2.setCell ⟨w.heap.size + 1 + 1 + 1, 3, none⟩ (.iface 87 (.string s)) = W at hE ⊢
              have m3 := hE.msg.cell 3
              simp only [List.getElem?_toArray, List.getElem?_cons_zero, List.getElem?_cons_succ] at m3
              go_wp2_with fail
              refine (checkIO cn p s W hs hE.conn).mono ?_
              rintro e w3 ⟨rfl, hc3, ha3⟩
              have hE3 := hE.next hc3 ha3 hcw
              clear m3
              have m0 := hE3.msg.cell 0
              have m1 := hE3.msg.cell 1
              have m2 := hE3.msg.cell 2
              have m3 := hE3.msg.cell 3
              have r0 := hE3.res.cell 0
              have r1 := hE3.res.cell 1
              have r2 := hE3.res.cell 2
              have r3 := hE3.res.cell 3
              have e0 := hE3.res.frozen 0
              have e1 := hE3.res.frozen 1
              have e2 := hE3.res.frozen 2
              have e3 := hE3.res.frozen 3
              simp only [nilMsg, List.getElem?_toArray, List.getElem?_cons_zero, List.getElem?_cons_succ] at m0 m1 m2 m3 r0 r1 r2 r3
              have HE := Lib.hid hE3
              clear hE hE3 hc3 ha3
              go_wp2_with fail
              have hF := HE.out.fin
              have hB := fin4_blk (w := w3) HE.out.res (.slice FA gs.length fc) (.int .u8 0) (.bool false) (.iface 87 (.string s))
              have k0 := hB.cell 0
              have k1 := hB.cell 1
              have k2 := hB.cell 2
              have k3 := hB.cell 3
              simp only [List.getElem?_toArray, List.getElem?_cons_zero, List.getElem?_cons_succ] at k0 k1 k2 k3
              unfold fin4 at k0 k1 k2 k3 hF
              refine bodyPost_ret (v := .agg #[.slice FA gs.length fc, .int .u8 0, .bool false, .iface 87 (.string s)]) (by simp [results, Tryz.results41, go_sem, k0, k1, k2, k3]) rfl (by first | exact hF | exact ⟨(fun h => by cases h), fun _ => hF⟩)
            · have hl2 : r2.length + 7 = n2 - 2 := by simp [seven] at hlen'; omega
              go_region_held3 (fun V => V.cell? ⟨cn, 2, none⟩ = some (.iface 34 (.pointer (some ⟨p, 0, none⟩)))) ((first | exact c2 | assumption | exact cell_far (by assumption) (by omega) _ _))
                (first
                  | (go_at_call 59
                     refine (readFull_ok p (w.heap.size + 1 + 1) 1 _ IA4 (n2 - 2) c4 7 7 out _ (seven f.n) r2 _ HS5.out.pipe.drew HS5.out.lng.drew (HS5.out.inb.more HS5.out.ap.size).drew rfl (by omega) (by rw [HS5.out.hl.2]; decide) (by omega)).mono ?_
                     rintro e w2 ⟨rfl, hh2, ⟨IA7, c7, hp2, hrb, hnc7, hoff7⟩, ha2, hs2⟩
                     have d2 := (HS5.out.conn.drew.apart ha2 (by simp; omega)).rw_
                     have d3 := (ha2.blk HS5.out.msg.drew (by simp; omega)).cell 3
                     have d4 := (ha2.blk HS5.out.msg.drew (by simp; omega)).frozen 3
                     simp only [List.getElem?_toArray, List.getElem?_cons_zero, List.getElem?_cons_succ] at d3))
              rename_i aK _
              refine aK _ _ ?_
              rw [splice_be8 HS2.out.hl.2] at hh2
              have hS6 := (HS5.out.next ((Apart.refl _ _).drew.trans ha2) (fun k hk => by simp at hk; omega) hpw hcw hne hp2 (fun h => hrb _ _ h HS5.out.nc.1) ⟨hnc7 HS5.out.nc.1, by omega⟩ hoff7 ((Apart.refl _ _).drew.trans ha2 |>.blk HS5.out.hdr (by simp; omega)) hh2 ⟨HS5.out.hl.1, rfl⟩).nilErr hpw hcw
              generalize w2.setCell ⟨w.heap.size + 1 + 1 + 1, 3, none⟩ .nilIface = W6 at hS6 ⊢
              clear hh2 hp2 hrb hnc7 hoff7 ha2 hs2 d2 d3 d4 c2
              have HS6 := Lib.hid hS6
              have m3 := hS6.msg.cell 3
              simp only [List.getElem?_toArray, List.getElem?_cons_zero, List.getElem?_cons_succ] at m3
              clear hS6
              go_wp2_with fail
              refine (beUint64 (w.heap.size + 1 + 1) 8 f.n _ W6 (by omega) HS6.out.lng (by decide)).mono ?_
              rintro e W8 ⟨rfl, ha8, hs8⟩
              have hS8 := HS6.out.apart0 ha8 hpw hcw hne
              have HS8 := Lib.hid hS8
              have HT8 := Lib.hid htail2
              have hmk := makeN f.n (by omega)
              have hpW8 := hS8.pipe.lt
              have hoW8 := hS8.old
              have c2 := hS8.conn.rw_
              have d2 := (hS8.conn.alloc (.cells (bv (noughts f.n)).toArray 5)).rw_
              clear hS8 ha8 htail2 hs8
              go_wp2_with fail
              rcases HT8.out with ⟨hlt, rfl⟩ | ⟨r3, todo2, rfl, htodo, hM2⟩
              · refine (readFull_few p W8.heap.size 0 _ IA7 (n2 - 2 - 7) c7 f.n f.n out _ _ _ (HS8.out.pipe.alloc _) (BB.mk W8 5 (noughts f.n)) ((HS8.out.inb.more HS8.out.ap.size).new _) (by omega) (by omega) (by simp [noughts]) (by omega)).mono ?_
                rintro e w2' ⟨⟨s, hs, rfl⟩, ha2⟩
                have ha3 := ((Apart.refl [W8.heap.size, p] W8).alloc (.cells (bv (noughts f.n)).toArray 5)).trans ha2
                have hE := HS8.out.err ha3 (fun k hk => by simp at hk; omega) hpw hcw hne s
                have d3 := (ha3.blk HS8.out.msg (by simp; omega)).cell 3
                have d4 := (ha3.blk HS8.out.msg (by simp; omega)).frozen 3
                simp only [List.getElem?_toArray, List.getElem?_cons_zero, List.getElem?_cons_succ] at d3
                clear ha2 ha3 c2 d2 hmk m3
                go_wp2_with fail
                refine (checkIO cn p s _ hs hE.conn).mono ?_
                rintro e w3 ⟨rfl, hc3, ha3⟩
                have hE3 := hE.next hc3 ha3 hcw
                have m0 := hE3.msg.cell 0
                have m1 := hE3.msg.cell 1
                have m2 := hE3.msg.cell 2
                have m3 := hE3.msg.cell 3
                have r0 := hE3.res.cell 0
                have r1 := hE3.res.cell 1
                have r2 := hE3.res.cell 2
                have r3 := hE3.res.cell 3
                have e0 := hE3.res.frozen 0
                have e1 := hE3.res.frozen 1
                have e2 := hE3.res.frozen 2
                have e3 := hE3.res.frozen 3
                simp only [nilMsg, List.getElem?_toArray, List.getElem?_cons_zero, List.getElem?_cons_succ] at m0 m1 m2 m3 r0 r1 r2 r3
                have HE := Lib.hid hE3
                clear hE hE3 hc3 ha3 d3 d4
                go_wp2_with fail
                have hF := HE.out.fin
                have hB := fin4_blk (w := w3) HE.out.res (.slice FA gs.length fc) (.int .u8 0) (.bool false) (.iface 87 (.string s))
                have k0 := hB.cell 0
                have k1 := hB.cell 1
                have k2 := hB.cell 2
                have k3 := hB.cell 3
                simp only [List.getElem?_toArray, List.getElem?_cons_zero, List.getElem?_cons_succ] at k0 k1 k2 k3
                unfold fin4 at k0 k1 k2 k3 hF
                refine bodyPost_ret (v := .agg #[.slice FA gs.length fc, .int .u8 0, .bool false, .iface 87 (.string s)]) (by simp [results, Tryz.results41, go_sem, k0, k1, k2, k3]) rfl (by first | exact hF | exact ⟨(fun h => by cases h), fun _ => hF⟩)
              · refine (readFull_ok p W8.heap.size 0 _ IA7 (n2 - 2 - 7) c7 f.n f.n out _ f.body r3 _ (HS8.out.pipe.alloc _) (BB.mk W8 5 (noughts f.n)) ((HS8.out.inb.more HS8.out.ap.size).new _) hfl.out.1 (by omega) (by simp [noughts]) (by omega)).mono ?_
                rintro e w2' ⟨rfl, hh2, ⟨IA5, c5, hp2, hrb, hnc5, hoff5⟩, ha2, hs2⟩
                rw [splice_all (by simp [noughts]) hfl.out.1] at hh2
                have ha3 := ((Apart.refl [W8.heap.size, p] W8).alloc (.cells (bv (noughts f.n)).toArray 5)).trans ha2
                have hS3 := (HS8.out.next ha3 (fun k hk => by simp at hk; omega) hpw hcw hne hp2 (fun h => hrb _ _ h HS8.out.nc.1) ⟨hnc5 HS8.out.nc.1, by omega⟩ hoff5 (ha3.blk HS8.out.hdr (by simp; omega)) (ha3.blk HS8.out.lng (by simp; omega)) HS8.out.hl)
                have d3 := hS3.msg.cell 3
                have d4 := hS3.msg.frozen 3
                simp only [List.getElem?_toArray, List.getElem?_cons_zero, List.getElem?_cons_succ] at d3
                have hS4 := hS3.nilErr hpw hcw
                have HB := Lib.hid (BB.farN hh2 (b := w.heap.size + 1 + 1 + 1) (o := 3) (by omega) .nilIface)
                have c3' := hS4.conn.sec
                have HS4 := Lib.hid hS4
                clear hS3 hS4 ha2 ha3 c2 d2 hmk m3 hp2 hrb hnc5 hoff5 hh2 hs2
                go_wp2_with fail
                refine (secType _).mono ?_
                rintro e w4 ⟨rfl, hb4⟩
                have hS5 := HS4.out.below_ hb4 hpw hcw hne
                have hd5 : BB w4 W8.heap.size 5 f.body := BB.after HB.out hb4 (Nat.le_refl _)
                have d5 := hS5.msg.cell 0
                have d6 := ((hS5.msg.alloc (.cells #[.slice (some ⟨W8.heap.size, 0, none⟩) f.n f.n] 23))).frozen 0
                simp only [List.getElem?_toArray, List.getElem?_cons_zero] at d5
                have hsrc := srcNew elBytes (w := w4) #[.slice (some ⟨W8.heap.size, 0, none⟩) f.n f.n] rfl (by intro u hu; simp at hu; subst hu; rfl)
                have HS9 := Lib.hid hS5
                have hHW := hS5.old
                clear hS5 d3 d4 c3'
                go_wp2_with (first
                  | (at_builtin
                     refine wpl_appT rfl elBytes (.tmp 101) (.tmp 103) 73 rfl (w.heap.size + 4) _ gs.length _ _ rfl (HS9.out.own.alloc _) _ 1 _ rfl hsrc (gs.length + 1) rfl (by omega) (by decide) (by simp; omega) ?_
                     intro A6 c6 w6 ho6 hg6 ha6
                     have d7 := (HS9.out.msg.alloc (.cells #[.slice (some ⟨W8.heap.size, 0, none⟩) f.n f.n] 23)).grown hg6 (row_ne (HS9.out.own) (by omega))
                     have d8 := d7.cell 0
                     have d9 := d7.frozen 0
                     simp only [List.getElem?_toArray, List.getElem?_cons_zero] at d8))
                have hbl := hfl.out.1
                rw [← hbl] at ho6
                have hP6 := HS9.out.push hpw hcw hd5 hoW8 hg6 ho6
                go_roundw
                case rel =>
                  refine ⟨seen ++ [f], todo2, f.more, r3, gs ++ [(W8.heap.size, f.body)], A6, c6, IA5, (n2 - 2 - 7) - f.n, c5, [flagV (longF f) f.cmd f.more, secF f], be8 f.n, rfl, ?_, Lib.hid ⟨by rw [HF.out, htodo]; simp, hM2⟩, ?_, Lib.hid hP6⟩
                  · rw [List.any_append, hany]; simp
                  · simp; omega
                case measure =>
                  rw [HQ.out, show (w6.setCell ⟨w.heap.size + 1 + 1 + 1, 0, none⟩ (.slice A6 (gs.length + 1) c6)).cell? ⟨p, 0, none⟩ = some (.slice IA5 ((n2 - 2 - 7) - f.n) c5) from hP6.pipe.cell 0]
                  simp only [Option.getD_some, inLen]
                  omega
end Go.Proofs.YtkpcepdalegmmaaGreatDoor
