/- Properties: impl.ParseMetadata of whole properties: the closure. -/
import Derived.Test.YtkpcepdalegmmaaDoorMdP
import Derived.Test.YtkpcepdalegmmaaDoorQuiet
import Derived.Maps.RangeWalk
import Derived.Maps.StringElems
namespace Go.Proofs.YtkpcepdalegmmaaDoor
open Go.RowKit

def RangesS (w : World) (B r n : Nat) (D : DataW Unit) (left : Lit → Bool) (cnt : Nat) : Prop := w.ranges Tryd.prog 9 (plainElem Tryd.prog 9) B r n D left cnt
section
variable {w w' : World} {B r n cnt : Nat} {D : DataW Unit} {left : Lit → Bool}
theorem RangesS.apart {ps : List Nat} (h : RangesS w B r n D left cnt) (ha : Apart ps w w') (h1 : B ∉ ps) (h2 : r ∉ ps) : RangesS w' B r n D left cnt := by
  have k1 := World.ownsMap.lt (World.ranges.owns h)
  have k2 := World.ranges.lt h
  obtain ⟨es, clock, since, seen, c0, hb, F, hs, hD, hr, rest⟩ := h
  exact ⟨es, clock, since, seen, c0, (ha.block B k1 h1).trans hb, F, hs, hD, (ha.block r k2 h2).trans hr, rest⟩
theorem RangesS.ne_cells (h : RangesS w B r n D left cnt) {g : Nat} {cs : Array Value} {t : TypeId} {fz : Nat × Nat} (hg : w.heap[g]? = some (.cells cs t fz)) : g ≠ B ∧ g ≠ r := by
  obtain ⟨es, clock, since, seen, c0, hb, F, hs, hD, hr, rest⟩ := h
  refine ⟨fun e => ?_, fun e => ?_⟩
  · subst e
    rw [hg] at hb
    cases hb
  · subst e
    rw [hg] at hr
    cases hr
theorem RangesS.ne_own (h : RangesS w B r n D left cnt) {base size k c : Nat} {e : TypeId} {A : Option Addr} {xs : List Value} (ho : w.ownsRow base e size (.slice A k c) k xs) : some B ≠ A.map (·.block) ∧ some r ≠ A.map (·.block) := by
  rcases ho.2 with ⟨hv, _⟩ | ⟨g, cap, cur, hv, _, hh, _⟩
  · injection hv with hA
    subst hA
    exact ⟨by simp, by simp⟩
  · injection hv with hA
    subst hA
    obtain ⟨h1, h2⟩ := h.ne_cells hh
    exact ⟨by simpa using h1.symm, by simpa using h2.symm⟩
theorem MapIs.size_le (h : MapIs w B n D) : Go.Maps.size D ≤ n := by
  obtain ⟨es, clock, hb, F, hs, rfl⟩ := h
  show List.length _ ≤ n
  rw [length_sorted, List.length_map]
  simpa using hs
end
/-- What the closure leaves at whole properties. -/
def MDone (w : World) (pl pk : Nat) (kvs : List Kv) (e : Ending) (w' : World) : Prop :=
  e = .returned (.tuple #[]) ∧ ∃ (A : Option Addr) (c : Nat) (ys : List Kv), Blk w' pl 22 #[.slice A ys.length c] ∧ Blk w' pk 4 #[.bool true] ∧ w'.ownsRow w.heap.size 36 2 (.slice A ys.length c) ys.length (kvCells ys) ∧ ys.Perm (kvs.map nmK) ∧ Apart [pl, pk] w w'

/-- Where the collecting stands. -/
structure CoSt (w : World) (pl pk B r n : Nat) (kvs : List Kv) (left : Lit → Bool) (cnt : Nat) (A : Option Addr) (c : Nat) (ys : List Kv) (wr : World) : Prop where
  rg : RangesS wr B r n (mdOf kvs) left cnt
  co : Collected (mdOf kvs) left (ys.map keyL)
  at_ : ∀ y ∈ ys, ∀ z, (mdOf kvs).atKey (.string (keyL y)) z = .lit (.string y.val.data.toList)
  lst : Blk wr pl 22 #[.slice A ys.length c]
  kk : Blk wr pk 4 #[.bool true]
  own : wr.ownsRow w.heap.size 36 2 (.slice A ys.length c) ys.length (kvCells ys)
  ap : Apart [pl, pk] w wr
  br : w.heap.size ≤ B ∧ w.heap.size ≤ r

set_option maxRecDepth 100000 in
set_option maxHeartbeats 8000000 in
theorem ParseMetadata_fo (pd pk pl : Nat) (A : Option Addr) (n c : Nat) (l : List UInt8) (kvs : List Kv) (w : World) (hr : RB w w.heap.size A n l) (hn : n ≤ 2147483647) (b0 : Blk w pd 30 #[.slice A n c]) (b1 : Blk w pl 22 #[.slice none 0 0]) (b2 : Blk w pk 4 #[.bool false])
    (hT : l = encKVs kvs) (hf : ∀ kv ∈ kvs, kvFit kv) (hk10 : kvs.length ≤ 10) (hpw : kvs.Pairwise (fun a b => keyL (nmK a) ≠ keyL (nmK b))) :
    Calls Tryd.prog 20 #[.pointer (some ⟨pd, 0, none⟩), .pointer (some ⟨pk, 0, none⟩), .pointer (some ⟨pl, 0, none⟩)] w (MDone w pl pk kvs) := by
  have hmm : ∀ t W, (Instr.makeMap t none).run Tryd.prog W = .ok (.map (some W.heap.size)) (W.alloc (.map #[] 0)) := fun _ _ => rfl
  have hM0 : MapIs (((w.alloc (.map #[] 0)).alloc (.cells #[.map (some w.heap.size)] 45)).alloc (.cells #[] 5)) w.heap.size 0 (.map []) := ((World.ownsMap_made w Tryd.prog 9 (plainElem Tryd.prog 9)).alloc _).alloc _
  have hP0 := (Blk.new (w.alloc (.map #[] 0)) 45 #[.map (some w.heap.size)]).alloc (.cells #[] 5)
  have hD0 : BB (((w.alloc (.map #[] 0)).alloc (.cells #[.map (some w.heap.size)] 45)).alloc (.cells #[] 5)) (w.heap.size + 1 + 1) 5 [] := by
    have h := Blk.new ((w.alloc (.map #[] 0)).alloc (.cells #[.map (some w.heap.size)] 45)) 5 #[]
    rw [World.size_alloc, World.size_alloc] at h
    exact h
  have hB0 : Below w.heap.size w (((w.alloc (.map #[] 0)).alloc (.cells #[.map (some w.heap.size)] 45)).alloc (.cells #[] 5)) := (((Below.refl _ _).alloc (Nat.le_refl _) _).alloc (by simp) _).alloc (by simp; omega) _
  have d0 := (b0.after hB0 (Nat.le_refl _)).cell0
  have hr0 := ((hr.new (.map #[] 0)).new (.cells #[.map (some w.heap.size)] 45)).new (.cells #[] 5)
  rw [World.size_alloc] at hP0
  have hl := hr.len
  have hplw := b1.lt
  have hpkw := b2.lt
  have hplk : pl ≠ pk := b1.ne_ b2 (by decide)
  have HT := Lib.hid (⟨hT, hf, hpw, hl, b1, b2⟩ : _ ∧ _ ∧ _ ∧ _ ∧ _ ∧ _)
  clear hT hf hpw hl hr b0 b1 b2
  go_enter Tryd.func20, Tryd.ntmps20
  go_wp2_with (first
    | (at_builtin
       refine wpl_appZ rfl (.tmp 8) (.tmp 9) 30 rfl (w.heap.size + 1 + 1) rfl hD0 _ n l rfl (srcB hr0) (by omega) ?_
       intro g c1 w1 hg1 hb1 hD1 hc1 hm1))
  have hT1 : (l ++ List.replicate (c1 - n) 0).take n = encKVs kvs ++ [] := by rw [← HT.out.2.2.2.1, List.take_left, List.append_nil]; exact HT.out.1
  have hL1 : (l ++ List.replicate (c1 - n) 0).length = c1 := by
    have := HT.out.2.2.2.1
    simp
    omega
  have hM1 : MapIs w1 w.heap.size 0 (.map []) := hM0.apart (ps := []) (Apart.of_below hb1) (by simp)
  have hB1 : Below w.heap.size w w1 := below_seq hB0 hb1 hB0.size
  have hP1 := hP0.after hb1 (Nat.le_refl _)
  have hc := UnmarshalZMTP (w.heap.size + 1) w.heap.size g n c1 _ [] kvs w1 hP1 hM1 hg1 hL1 hc1 hn hT1 HT.out.2.1 hk10 (.inl rfl)
  have HC := Lib.hid hc
  have HB1 := Lib.hid (⟨hB1, hP1⟩ : _ ∧ _)
  clear hc hM1 hB1 hT1 hL1 hg1 hb1 hM0 hP0 hD0 hB0 d0 hr0 hD1 hc1 hm1 hP1
  refine HC.out.mono ?_
  rintro e w2 ⟨hyes, _, ha⟩
  obtain ⟨rfl, hM2⟩ := hyes rfl
  have hB2 : Below w.heap.size w w2 := HB1.out.1.trans (ha.below HB1.out.1.size (by simp))
  have hP2 := ha.blk HB1.out.2 (by simp)
  have p0 := hP2.cell0
  have hK2 := HT.out.2.2.2.2.2.after hB2 (Nat.le_refl _)
  have hL2 := HT.out.2.2.2.2.1.after hB2 (Nat.le_refl _)
  have k0 := hK2.cell0
  have k1 := hK2.frozen 0
  have hK3 := hK2.setN (.bool true)
  have hL3 := hL2.farN (b := pk) (o := 0) hplk (.bool true)
  have hP3 := hP2.farN (b := pk) (o := 0) (by omega) (.bool true)
  have hM3 : MapIs (w2.setCell ⟨pk, 0, none⟩ (.bool true)) w.heap.size kvs.length (mdOf kvs) := hM2.apart (ps := [pk]) ((Apart.refl _ _).setN (.inl (by simp)) _) (by simp; omega)
  have hA3 : Apart [pl, pk] w (w2.setCell ⟨pk, 0, none⟩ (.bool true)) := (Apart.of_below hB2).setN (.inl (by simp)) _
  have hsz := hB2.size
  clear hyes ha hM2 hB2 hP2 hK2 hL2 HC HB1
  have p3 := hP3.cell0
  go_wp2_with (first
    | (at_range
       refine wpList_range_own _ rfl _ 45 rfl 9 9 strKeyed Tryd.underlying45 _ w.heap.size kvs.length (mdOf kvs) rfl hM3 ?_
       intro w4 hrg4 hg4 hs4))
  go_frame
  have hsr : (w2.setCell ⟨pk, 0, none⟩ (.bool true)).heap.size = w2.heap.size := World.size_setCell _ _ _
  have hS0 : CoSt w pl pk w.heap.size w2.heap.size kvs.length kvs (Go.Maps.has (mdOf kvs)) (Go.Maps.size (mdOf kvs)) none 0 [] w4 := by
    rw [hsr] at hrg4
    refine ⟨hrg4, Collected.start _, (fun y hy => by cases hy), hL3.grown hg4 (by simp), hK3.grown hg4 (by simp), World.ownsRow_nil _ _ _ _, ?_, Nat.le_refl _, hsz⟩
    exact hA3.trans (Apart.of_grown hg4 (fun g e => by cases e))
  have hcnt := MapIs.size_le hM3
  have HS0 := Lib.hid hS0
  have HS4 := Lib.hid hs4
  (try simp only [World.size_setCell])
  clear hrg4 hg4 hs4 hS0 hM3 hA3 hK3 hL3 hP3 p3 p0 k0 k1 hmm hsr
  obtain ⟨r, hr⟩ : ∃ r, r = w2.heap.size := ⟨_, rfl⟩
  rw [← hr] at HS0 hsz ⊢
  have HR := Lib.hid hr
  clear hr HS4
  go_loopw [5] (fun _ wr => ∃ (left : Lit → Bool) (cnt : Nat) (A' : Option Addr) (c' : Nat) (ys : List Kv), ys.length + cnt ≤ 10 ∧ Hid (CoSt w pl pk w.heap.size r kvs.length kvs left cnt A' c' ys wr)) (fun _ wr => wr.rangeLeft w.heap.size r)
  case atStart => exact ⟨_, _, none, 0, [], by simp; omega, HS0⟩
  case round =>
    obtain ⟨left, cnt, A', c', ys, hlen, hS⟩ := hrel
    have hrg := hS.out.rg
    unfold RangesS at hrg
    have l0 := hS.out.lst.cell0
    go_wp2_with (first
      | (at_next
         refine wpList_next_ranges _ rfl _ rfl 9 strKeyed (plainElem Tryd.prog 9) Go.Proofs.encStr Value.string (fun key kl hk => by obtain ⟨x, hx, _⟩ := Maps.keyOf_str Tryd.u_string hk; exact ⟨x, hx⟩) (fun v y hv => by obtain ⟨c, rfl, _⟩ := plainElem_string_inv Tryd.u_string hv; exact ⟨c, rfl⟩) w.heap.size r kvs.length _ _ _ rfl hrg ?_ ?_))
    · intro hc0 hl0
      have h := hS.out
      have hF : MDone w pl pk kvs (.returned (.tuple #[])) wr := ⟨rfl, A', c', ys, h.lst, h.kk, h.own, collected_perm HT.out.2.2.1 h.co h.at_ hl0, h.ap⟩
      have HF := Lib.hid hF
      clear hF h hc0 hl0 l0 hrg
      go_wp2_with fail
      exact bodyPost_end (results_none rfl _ _ _) rfl HF.out
    · intro x cv kl yd yp w5 cnt2 hkey hlk hv hat hrg2 hlt hg2 hs2 hen
      obtain ⟨x', ex, rfl, hxl⟩ := Maps.keyOf_str Tryd.u_string hkey
      obtain rfl : x = x' := encStr_inj ex
      obtain ⟨cv', ec, ey, hcl⟩ := plainElem_string_inv Tryd.u_string hv
      cases ec
      have hat2 : ∀ z, (mdOf kvs).atKey (.string x) z = .lit (.string cv.data.toList) := fun z => by
        exact (hat z).trans (congrArg Prod.fst ey)
      have h := hS.out
      have a5 : Apart [r] wr w5 := Apart.of_grown hg2 (fun g e => .inl (by cases e; simp))
      have hne := RangesS.ne_own h.rg h.own
      have own5 := a5.own h.own (fun g hg e => by
        cases A' with
        | none => cases hg
        | some ad =>
          simp only [Value.ownBlock, Option.some.injEq] at hg
          simp only [List.mem_singleton] at e
          exact hne.2 (by simp [hg, e]))
      have lst5 := a5.blk h.lst (by simp; omega)
      have kk5 := a5.blk h.kk (by simp; omega)
      have ap5 := h.ap.viaB a5 (fun i hi hm => by simp at hm; omega)
      have hsrc := srcNew elImplKv (w := w5) #[.string ⟨x.toArray⟩, .string cv] rfl (Kv.one ⟨⟨x.toArray⟩, cv⟩)
      have hsz5 : w.heap.size ≤ w5.heap.size := ap5.size
      have l5 := lst5.cell0
      have hcount : (ys.length + 1) + cnt2 ≤ 10 := by omega
      have hyl : ys.length ≤ 10 := by omega
      have HC := Lib.hid (⟨h.co.step hlk hat2, h.at_, hat2, hrg2, kk5, ap5, lst5, hlt, hne⟩ : _ ∧ _ ∧ _ ∧ _ ∧ _ ∧ _ ∧ _ ∧ _ ∧ _)
      have HL := Lib.hid (World.ranges.left_eq hrg)
      clear hat2 h a5 kk5 ap5 hkey hlk hv hat hrg2 hg2 hs2 ey hcl hxl l0 hrg hlt hne
      go_wp2_with (first
        | (at_builtin
           refine wpl_appT rfl elImplKv (.tmp 21) (.tmp 25) 22 rfl w.heap.size A' ys.length c' (kvCells ys) rfl (World.ownsRow.alloc own5 _) _ 1 [.string ⟨x.toArray⟩, .string cv] rfl hsrc (ys.length + 1) rfl (by omega) (by decide) (by simp; omega) ?_
           intro A6 c6 w6 ho6 hg6 ha6
           have a6 : Apart (A'.map (·.block)).toList w5 w6 := ((Apart.refl _ _).alloc _).trans (Apart.of_grown hg6 (fun g e => .inl (by simp [e])))
           have low6 : ∀ k, k < w.heap.size → k ∉ (A'.map (·.block)).toList := fun k hk hm => by
             have := own_base' own5 (g := k) (by simpa using hm)
             omega
           have lst6 := a6.blk lst5 (low6 _ hplw)
           have m0 := lst6.cell0
           have m1 := lst6.frozen 0))
      obtain ⟨hco, hat3, hat2, hrg2, kk5, ap5, lst5', hlt, hne⟩ := HC.out
      have hlen2 : (ys ++ [(⟨⟨x.toArray⟩, cv⟩ : Kv)]).length = ys.length + 1 := by simp
      have hS7 : CoSt w pl pk w.heap.size r kvs.length kvs (fun z => left z && !z.sameKey (.string x)) cnt2 A6 c6 (ys ++ [⟨⟨x.toArray⟩, cv⟩]) (w6.setCell ⟨pl, 0, none⟩ (.slice A6 (ys.length + 1) c6)) := by
        have rg6 := RangesS.apart (h := hrg2) a6 (fun hm => hne.1 (Option.mem_toList.1 hm).symm) (fun hm => hne.2 (Option.mem_toList.1 hm).symm)
        have rg7 := RangesS.apart (ps := [pl]) rg6 ((Apart.refl _ w6).setN (g := pl) (o := 0) (.inl (by simp)) (.slice A6 (ys.length + 1) c6)) (by simp; omega) (by simp; omega)
        refine ⟨rg7, ?_, ?_, ?_, ?_, ?_, ?_, Nat.le_refl _, hsz⟩
        · rw [List.map_append]
          exact hco
        · intro y hy z
          rcases List.mem_append.1 hy with hy | hy
          · exact hat3 y hy z
          · simp only [List.mem_singleton] at hy
            subst hy
            exact hat2 z
        · rw [hlen2]
          exact lst6.setN _
        · exact (a6.blk kk5 (low6 _ hpkw)).farN (Ne.symm hplk) _
        · rw [hlen2, ← kvCells_snoc]
          exact ownsRow_setCell_below ho6 (a := ⟨pl, 0, none⟩) hplw _
        · exact (ap5.viaB a6 (fun i hi hm => absurd hm (low6 i hi))).setN (.inl (by simp)) _
      have HS7 := Lib.hid hS7
      clear hco hat3 hat2 hrg2 kk5 ap5 lst5' hne hS7 hlen2 ho6 hg6 ha6 a6 low6 lst6 m0 m1 l5 lst5 own5 hsrc HC
      go_roundw
      all_goals first
        | (rw [HL.out, World.ranges.left_eq HS7.out.rg]; exact hlt)
        | exact ⟨_, cnt2, A6, c6, _, by simp; omega, HS7⟩
        | ((repeat apply Exists.intro); exact ⟨⟨_, cnt2, A6, c6, _, by simp; omega, HS7⟩, rfl⟩)
end Go.Proofs.YtkpcepdalegmmaaDoor
