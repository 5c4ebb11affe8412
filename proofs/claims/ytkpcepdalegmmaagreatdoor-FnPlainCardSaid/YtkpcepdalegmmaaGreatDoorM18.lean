/- Parts of a proof, laid behind one another: Commands: impl.ParseCommand. -/
import Derived.Test.YtkpcepdalegmmaaGreatDoorM17
import Derived.Test.YtkpcepdalegmmaaGreatDoorM03
/-! Commands: impl.ParseCommand. -/
namespace Go.Proofs.YtkpcepdalegmmaaGreatDoor
open Go.RowKit

/-- What the closure of ParseCommand leaves. -/
def ParsedC (w : World) (pn pb pk : Nat) (nm : ByteArray) (b : List UInt8) (ok : Bool) (e : Ending) (w' : World) : Prop :=
  e = .returned (.tuple #[]) ∧ ∃ A2 n2 c2, Blk w' pn 9 #[.string nm] ∧ Blk w' pb 23 #[.slice A2 n2 c2] ∧ Blk w' pk 4 #[.bool ok] ∧ OB w' w.heap.size A2 n2 c2 b ∧ Apart [pn, pb, pk] w w'

theorem two_set {V : World} {g b o : Nat} {x y u : Value} (hb : b ≠ g) (h : V.cell? ⟨g, 0, none⟩ = some x ∧ V.cell? ⟨g, 1, none⟩ = some y) :
    (V.setCell ⟨b, o, none⟩ u).cell? ⟨g, 0, none⟩ = some x ∧ (V.setCell ⟨b, o, none⟩ u).cell? ⟨g, 1, none⟩ = some y :=
  ⟨(World.cell?_setCell_other V _ _ u (fun e => hb (congrArg Addr.block e))).trans h.1, (World.cell?_setCell_other V _ _ u (fun e => hb (congrArg Addr.block e))).trans h.2⟩

set_option maxRecDepth 100000 in
theorem ParseCommand_f (pd pn pb pk : Nat) (A : Option Addr) (n c : Nat) (l : List UInt8) (w : World) (hr : RB w w.heap.size A n l) (hn : n ≤ 2147483647)
    (nm : ByteArray) (b : List UInt8) (ok : Bool) (hres : (ok = true ∧ ∃ k r, l = k :: r ∧ k.toNat < n ∧ nm = ⟨(r.take k.toNat).toArray⟩ ∧ b = r.drop k.toNat) ∨ (ok = false ∧ nm = ⟨#[]⟩ ∧ b = [] ∧ ∀ k r, l = k :: r → n ≤ k.toNat))
    (hpd : Blk w pd 23 #[.slice A n c]) (hpn : Blk w pn 9 #[.string ⟨#[]⟩]) (hpb : Blk w pb 23 #[.slice none 0 0]) (hpk : Blk w pk 4 #[.bool false]) :
    Calls Tryz.prog 29 #[.pointer (some ⟨pd, 0, none⟩), .pointer (some ⟨pn, 0, none⟩), .pointer (some ⟨pb, 0, none⟩), .pointer (some ⟨pk, 0, none⟩)] w (ParsedC w pn pb pk nm b ok) := by
  have m1 : pn ≠ pb := hpn.ne_ hpb (by decide)
  have m2 : pn ≠ pk := hpn.ne_ hpk (by decide)
  have m3 : pb ≠ pk := hpb.ne_ hpk (by decide)
  have hres' := Lib.hid hres
  clear hres
  have hd0 := ((hpd.alloc (.cells #[] 5))).cell0
  go_enter Tryz.func29, Tryz.ntmps29
  go_wp2_with (first
    | (at_builtin
       refine wpl_appB rfl (.tmp 7) (.tmp 8) 23 rfl w.heap.size _ 0 0 [] rfl (OB.lit0 w _ (Nat.le_refl _)) _ n l rfl (srcB (hr.new _)) n (Nat.zero_add n) (by omega) (by simp) ?_
       intro A1 c1 w1 ho1 hg1 ha1
       have hb1 : Below w.heap.size w w1 := ((Below.refl _ w).alloc (Nat.le_refl _) _).grown hg1 (by simp) (fun k hk => by cases hk; exact Nat.le_refl _)))
  rcases hres'.out with ⟨rfl, h⟩ | ⟨rfl, h⟩
  · obtain ⟨k, r, rfl, hk, rfl, rfl⟩ := h
    refine (ZZParse_ok A1 n c1 k r w1 (by simpa using ho1.rb) ho1.cap.1 hn hk).mono ?_
    rintro e w2 ⟨⟨A2, n2, c2, rfl, hr2, hn2⟩, hb2⟩
    have hb12 := below_seq hb1 hb2 hb1.size
    go_wp2_with fail
    have hcm := Blk.new w2 77 #[(.string ⟨(r.take k.toNat).toArray⟩), .slice A2 n2 c2]
    have gcm := hcm.lt
    have hpn2 := (hpn.after hb12 (Nat.le_refl _)).alloc (.cells #[(.string ⟨(r.take k.toNat).toArray⟩), .slice A2 n2 c2] 77)
    have hpb2 := (hpb.after hb12 (Nat.le_refl _)).alloc (.cells #[(.string ⟨(r.take k.toNat).toArray⟩), .slice A2 n2 c2] 77)
    have hpk2 := (hpk.after hb12 (Nat.le_refl _)).alloc (.cells #[(.string ⟨(r.take k.toNat).toArray⟩), .slice A2 n2 c2] 77)
    have hr3 := (hr2.more hb2.size).new (.cells #[(.string ⟨(r.take k.toNat).toArray⟩), .slice A2 n2 c2] 77)
    have hb3 : Below w.heap.size w (w2.alloc (.cells #[(.string ⟨(r.take k.toNat).toArray⟩), .slice A2 n2 c2] 77)) := hb12.alloc hb12.size _
    generalize w2.alloc (.cells #[(.string ⟨(r.take k.toNat).toArray⟩), .slice A2 n2 c2] 77) = W at *
    have S_of : ∀ V, Below W.heap.size W V → V.cell? ⟨w2.heap.size, 0, none⟩ = some (.string ⟨(r.take k.toNat).toArray⟩) ∧ V.cell? ⟨w2.heap.size, 1, none⟩ = some (.slice A2 n2 c2) := fun V hV => ⟨(hV.cell (p := ⟨w2.heap.size, 0, none⟩) gcm).trans (hcm.cell 0), (hV.cell (p := ⟨w2.heap.size, 1, none⟩) gcm).trans (hcm.cell 1)⟩
    have e1 : pn ≠ w2.heap.size := Nat.ne_of_lt (Nat.lt_of_lt_of_le hpn.lt hb12.size)
    have e2 : pb ≠ w2.heap.size := Nat.ne_of_lt (Nat.lt_of_lt_of_le hpb.lt hb12.size)
    have e3 : pk ≠ w2.heap.size := Nat.ne_of_lt (Nat.lt_of_lt_of_le hpk.lt hb12.size)
    clear hres' hd0 hcm hr2 hb2
    go_region_held3 (fun V => V.cell? ⟨w2.heap.size, 0, none⟩ = some (.string ⟨(r.take k.toNat).toArray⟩) ∧ V.cell? ⟨w2.heap.size, 1, none⟩ = some (.slice A2 n2 c2))
      ((first | exact S_of _ (Below.refl _ _).drew | exact S_of _ ((Below.refl _ _).drew.alloc (Nat.le_refl _) _) | exact S_of _ (by assumption) | exact two_set e1 (by assumption) | exact two_set e2 (by assumption) | exact two_set e3 (by assumption)))
      (first
        | (with_reducible refine st_at 18 ?_
           refine st_appB rfl (.tmp 15) (.tmp 17) 23 rfl W.heap.size _ 0 0 [] rfl (OB.lit0 _ _ (Nat.le_refl _)) _ _ _ rfl (srcB (hr3.new _)) _ (Nat.zero_add _) (by omega) (by simp) ?_
           intro A3 c3 w3 ho3 hg3 ha3
           have hb4 : Below W.heap.size W w3 := ((Below.refl _ _).drew.alloc (Nat.le_refl _) _).grown hg3 (by simp) (fun k hk => by cases hk; exact Nat.le_refl _)
           have hpn3 := hpn2.after hb4 (Nat.le_refl _)
           have hpb3 := hpb2.after hb4 (Nat.le_refl _)
           have hpk3 := hpk2.after hb4 (Nat.le_refl _)
           have g1 := hpn3.cell0
           have g2 := hpb3.cell0
           have g3 := hpk3.cell0
           have f1 := hpn3.frozen 0
           have f2 := hpb3.frozen 0
           have f3 := hpk3.frozen 0))
    go_end0
    have hb5 : Below w.heap.size w w3 := below_seq hb3 hb4 hb3.size
    have t1 := ((hpn3.setN (.string ⟨(r.take k.toNat).toArray⟩)).farN (b := pb) (o := 0) m1 (.slice A3 n2 c3)).farN (b := pk) (o := 0) m2 (.bool true)
    have t2 := ((hpb3.farN (b := pn) (o := 0) (Ne.symm m1) (.string ⟨(r.take k.toNat).toArray⟩)).setN (.slice A3 n2 c3)).farN (b := pk) (o := 0) m3 (.bool true)
    have t3 := ((hpk3.farN (b := pn) (o := 0) (Ne.symm m2) (.string ⟨(r.take k.toNat).toArray⟩)).farN (b := pb) (o := 0) (Ne.symm m3) (.slice A3 n2 c3)).setN (.bool true)
    refine ⟨rfl, A3, _, c3, t1, t2, t3, ?_, ?_⟩
    · exact (((ho3.setN hpn2.lt _).setN hpb2.lt _).setN hpk2.lt _).more hb3.size
    · exact (((Apart.of_below hb5).setN (.inl (by simp)) _).setN (.inl (by simp)) _).setN (.inl (by simp)) _
  · obtain ⟨rfl, rfl, hk⟩ := h
    refine (ZZParse_cut A1 n c1 l w1 (by simpa using ho1.rb) hn hk).mono ?_
    rintro e w2 ⟨⟨s, rfl⟩, hb2⟩
    have hr2 : RB w2 w1.heap.size none 0 [] := RB.nil_
    have hn2 : 0 ≤ 2147483647 := by omega
    have hb12 := below_seq hb1 hb2 hb1.size
    go_wp2_with fail
    have hcm := Blk.new w2 77 #[(.string ⟨#[]⟩), .slice none 0 0]
    have gcm := hcm.lt
    have hpn2 := (hpn.after hb12 (Nat.le_refl _)).alloc (.cells #[(.string ⟨#[]⟩), .slice none 0 0] 77)
    have hpb2 := (hpb.after hb12 (Nat.le_refl _)).alloc (.cells #[(.string ⟨#[]⟩), .slice none 0 0] 77)
    have hpk2 := (hpk.after hb12 (Nat.le_refl _)).alloc (.cells #[(.string ⟨#[]⟩), .slice none 0 0] 77)
    have hr3 := (hr2.more hb2.size).new (.cells #[(.string ⟨#[]⟩), .slice none 0 0] 77)
    have hb3 : Below w.heap.size w (w2.alloc (.cells #[(.string ⟨#[]⟩), .slice none 0 0] 77)) := hb12.alloc hb12.size _
    generalize w2.alloc (.cells #[(.string ⟨#[]⟩), .slice none 0 0] 77) = W at *
    have S_of : ∀ V, Below W.heap.size W V → V.cell? ⟨w2.heap.size, 0, none⟩ = some (.string ⟨#[]⟩) ∧ V.cell? ⟨w2.heap.size, 1, none⟩ = some (.slice none 0 0) := fun V hV => ⟨(hV.cell (p := ⟨w2.heap.size, 0, none⟩) gcm).trans (hcm.cell 0), (hV.cell (p := ⟨w2.heap.size, 1, none⟩) gcm).trans (hcm.cell 1)⟩
    have e1 : pn ≠ w2.heap.size := Nat.ne_of_lt (Nat.lt_of_lt_of_le hpn.lt hb12.size)
    have e2 : pb ≠ w2.heap.size := Nat.ne_of_lt (Nat.lt_of_lt_of_le hpb.lt hb12.size)
    have e3 : pk ≠ w2.heap.size := Nat.ne_of_lt (Nat.lt_of_lt_of_le hpk.lt hb12.size)
    clear hres' hd0 hcm hr2 hb2
    go_region_held3 (fun V => V.cell? ⟨w2.heap.size, 0, none⟩ = some (.string ⟨#[]⟩) ∧ V.cell? ⟨w2.heap.size, 1, none⟩ = some (.slice none 0 0))
      ((first | exact S_of _ (Below.refl _ _).drew | exact S_of _ ((Below.refl _ _).drew.alloc (Nat.le_refl _) _) | exact S_of _ (by assumption) | exact two_set e1 (by assumption) | exact two_set e2 (by assumption) | exact two_set e3 (by assumption)))
      (first
        | (with_reducible refine st_at 18 ?_
           refine st_appB rfl (.tmp 15) (.tmp 17) 23 rfl W.heap.size _ 0 0 [] rfl (OB.lit0 _ _ (Nat.le_refl _)) _ _ _ rfl (srcB (hr3.new _)) _ (Nat.zero_add _) (by omega) (by simp) ?_
           intro A3 c3 w3 ho3 hg3 ha3
           have hb4 : Below W.heap.size W w3 := ((Below.refl _ _).drew.alloc (Nat.le_refl _) _).grown hg3 (by simp) (fun k hk => by cases hk; exact Nat.le_refl _)
           have hpn3 := hpn2.after hb4 (Nat.le_refl _)
           have hpb3 := hpb2.after hb4 (Nat.le_refl _)
           have hpk3 := hpk2.after hb4 (Nat.le_refl _)
           have g1 := hpn3.cell0
           have g2 := hpb3.cell0
           have g3 := hpk3.cell0
           have f1 := hpn3.frozen 0
           have f2 := hpb3.frozen 0
           have f3 := hpk3.frozen 0))
    go_end0
    have hb5 : Below w.heap.size w w3 := below_seq hb3 hb4 hb3.size
    have t1 := ((hpn3.setN (.string ⟨#[]⟩)).farN (b := pb) (o := 0) m1 (.slice A3 0 c3)).farN (b := pk) (o := 0) m2 (.bool false)
    have t2 := ((hpb3.farN (b := pn) (o := 0) (Ne.symm m1) (.string ⟨#[]⟩)).setN (.slice A3 0 c3)).farN (b := pk) (o := 0) m3 (.bool false)
    have t3 := ((hpk3.farN (b := pn) (o := 0) (Ne.symm m2) (.string ⟨#[]⟩)).farN (b := pb) (o := 0) (Ne.symm m3) (.slice A3 0 c3)).setN (.bool false)
    refine ⟨rfl, A3, _, c3, t1, t2, t3, ?_, ?_⟩
    · exact (((ho3.setN hpn2.lt _).setN hpb2.lt _).setN hpk2.lt _).more hb3.size
    · exact (((Apart.of_below hb5).setN (.inl (by simp)) _).setN (.inl (by simp)) _).setN (.inl (by simp)) _

set_option maxRecDepth 100000 in
theorem ParseCommand (A : Option Addr) (n c : Nat) (l : List UInt8) (w : World) (hr : RB w w.heap.size A n l) (hn : n ≤ 2147483647)
    (nm : ByteArray) (b : List UInt8) (ok : Bool) (hres : (ok = true ∧ ∃ k r, l = k :: r ∧ k.toNat < n ∧ nm = ⟨(r.take k.toNat).toArray⟩ ∧ b = r.drop k.toNat) ∨ (ok = false ∧ nm = ⟨#[]⟩ ∧ b = [] ∧ ∀ k r, l = k :: r → n ≤ k.toNat)) :
    Calls Tryz.prog 14 #[.slice A n c] w fun e w' => ∃ A2 n2 c2, e = .returned (.tuple #[.string nm, .slice A2 n2 c2, .bool ok]) ∧ OB w' w.heap.size A2 n2 c2 b ∧ Below w.heap.size w w' := by
  have hres' := Lib.hid hres
  clear hres
  have hmf : ∀ (fn : Fn) (first cap : Array Value) (w : World), (Instr.makeFunc fn first cap).run Tryz.prog w = .ok (.func fn first cap) w := fun _ _ _ _ => rfl
  go_enter Tryz.func14, Tryz.ntmps14
  go_wp2_with fail
  refine (quietly_any 29 _ _ (fun q w' => q = true ∧ ∃ A2 n2 c2, OB w' (w.heap.size + 5) A2 n2 c2 b ∧ Blk w' (w.heap.size + 1) 9 #[.string nm] ∧ Blk w' (w.heap.size + 1 + 1) 23 #[.slice A2 n2 c2] ∧ Blk w' (w.heap.size + 1 + 1 + 1) 4 #[.bool ok] ∧ Below w.heap.size w w') (fun W => by simp [go_sem]) ?_).mono ?_
  · have b0 := (((Blk.new w 23 #[.slice A n c]).alloc (.cells #[.string ⟨#[]⟩] 9)).alloc (.cells #[.slice none 0 0] 23)).alloc (.cells #[.bool false] 4) |>.alloc (.cells #[.bool false] 4)
    have b1 := ((Blk.new (w.alloc (.cells #[.slice A n c] 23)) 9 #[.string ⟨#[]⟩]).alloc (.cells #[.slice none 0 0] 23)).alloc (.cells #[.bool false] 4) |>.alloc (.cells #[.bool false] 4)
    have b2 := (Blk.new ((w.alloc (.cells #[.slice A n c] 23)).alloc (.cells #[.string ⟨#[]⟩] 9)) 23 #[.slice none 0 0]).alloc (.cells #[.bool false] 4) |>.alloc (.cells #[.bool false] 4)
    have b3 := (Blk.new (((w.alloc (.cells #[.slice A n c] 23)).alloc (.cells #[.string ⟨#[]⟩] 9)).alloc (.cells #[.slice none 0 0] 23)) 4 #[.bool false]).alloc (.cells #[.bool false] 4)
    have b4 := Blk.new ((((w.alloc (.cells #[.slice A n c] 23)).alloc (.cells #[.string ⟨#[]⟩] 9)).alloc (.cells #[.slice none 0 0] 23)).alloc (.cells #[.bool false] 4)) 4 #[.bool false]
    have hr5 := ((((hr.new (.cells #[.slice A n c] 23)).new (.cells #[.string ⟨#[]⟩] 9)).new (.cells #[.slice none 0 0] 23)).new (.cells #[.bool false] 4)).new (.cells #[.bool false] 4)
    have hb5 : Below w.heap.size w (((((w.alloc (.cells #[.slice A n c] 23)).alloc (.cells #[.string ⟨#[]⟩] 9)).alloc (.cells #[.slice none 0 0] 23)).alloc (.cells #[.bool false] 4)).alloc (.cells #[.bool false] 4)) := below_new (below_new (below_new (below_new (below_new (Below.refl _ _)))))
    have e5 : (((((w.alloc (.cells #[.slice A n c] 23)).alloc (.cells #[.string ⟨#[]⟩] 9)).alloc (.cells #[.slice none 0 0] 23)).alloc (.cells #[.bool false] 4)).alloc (.cells #[.bool false] 4)).heap.size = w.heap.size + 5 := by simp
    generalize (((((w.alloc (.cells #[.slice A n c] 23)).alloc (.cells #[.string ⟨#[]⟩] 9)).alloc (.cells #[.slice none 0 0] 23)).alloc (.cells #[.bool false] 4)).alloc (.cells #[.bool false] 4)) = W at *
    simp only [World.size_alloc] at *
    refine (ParseCommand_f w.heap.size (w.heap.size + 1) (w.heap.size + 1 + 1) (w.heap.size + 1 + 1 + 1) A n c l W hr5 hn nm b ok hres'.out b0 b1 b2 b3).mono ?_
    rintro e w' ⟨rfl, A2, n2, c2, t1, t2, t3, ho, ha⟩
    have t4 := ha.blk b4 (by simp; omega)
    rw [e5] at ho
    exact ⟨t4.cell0, t4.frozen 0, .inl ⟨rfl, rfl, A2, n2, c2, ho, t1, t2, t3, hb5.trans (ha.below (by omega) (by simp; omega))⟩⟩
  rintro e w' ⟨q, w1, rfl, ⟨rfl, A2, n2, c2, ho, t1, t2, t3, hb⟩, rfl⟩
  simp only [World.size_alloc]
  have t1 := t1.farN (b := w.heap.size + 1 + 1 + 1 + 1) (o := 0) (by omega) (.bool true)
  have t2 := t2.farN (b := w.heap.size + 1 + 1 + 1 + 1) (o := 0) (by omega) (.bool true)
  have t3 := t3.farN (b := w.heap.size + 1 + 1 + 1 + 1) (o := 0) (by omega) (.bool true)
  have ho := ho.setN (b := w.heap.size + 1 + 1 + 1 + 1) (o := 0) (by omega) (.bool true)
  have hb := below_setN (b := w.heap.size + 1 + 1 + 1 + 1) (o := 0) hb (by omega) (.bool true)
  generalize w1.setCell ⟨w.heap.size + 1 + 1 + 1 + 1, 0, none⟩ (.bool true) = W at *
  have c1 := t1.cell0
  have c2' := t2.cell0
  have c3 := t3.cell0
  have f1 := t1.frozen 0
  have f2 := t2.frozen 0
  have f3 := t3.frozen 0
  rcases hres'.out with ⟨rfl, h⟩ | ⟨rfl, rfl, rfl, h⟩
  · clear hres' h hmf hr
    go_wp2_with fail
    go_region
    go_wp2_with fail
    have k1 := ((t1.setN (.string nm)).farN (b := w.heap.size + 1 + 1) (o := 0) (by omega) (.slice A2 n2 c2)).farN (b := w.heap.size + 1 + 1 + 1) (o := 0) (by omega) (.bool true) |>.cell0
    have k2 := ((t2.farN (b := w.heap.size + 1) (o := 0) (by omega) (.string nm)).setN (.slice A2 n2 c2)).farN (b := w.heap.size + 1 + 1 + 1) (o := 0) (by omega) (.bool true) |>.cell0
    have k3 := ((t3.farN (b := w.heap.size + 1) (o := 0) (by omega) (.string nm)).farN (b := w.heap.size + 1 + 1) (o := 0) (by omega) (.slice A2 n2 c2)).setN (.bool true) |>.cell0
    refine bodyPost_ret (v := .tuple #[(.string nm), (.slice A2 n2 c2), .bool true]) (by simp [results, Tryz.results14, go_sem, k1, k2, k3]) rfl ⟨_, _, _, rfl, ?_, ?_⟩
    · exact (((ho.setN (by omega) _).setN (by omega) _).setN (by omega) _).more (by omega)
    · exact (below_setN (below_setN (below_setN hb (by omega) _) (by omega) _) (by omega) _).drew
  · clear hres' h hmf hr
    go_wp2_with fail
    have k1 := ((t1.setN (.string ⟨#[]⟩)).farN (b := w.heap.size + 1 + 1) (o := 0) (by omega) (.slice none 0 0)).farN (b := w.heap.size + 1 + 1 + 1) (o := 0) (by omega) (.bool false) |>.cell0
    have k2 := ((t2.farN (b := w.heap.size + 1) (o := 0) (by omega) (.string ⟨#[]⟩)).setN (.slice none 0 0)).farN (b := w.heap.size + 1 + 1 + 1) (o := 0) (by omega) (.bool false) |>.cell0
    have k3 := ((t3.farN (b := w.heap.size + 1) (o := 0) (by omega) (.string ⟨#[]⟩)).farN (b := w.heap.size + 1 + 1) (o := 0) (by omega) (.slice none 0 0)).setN (.bool false) |>.cell0
    refine bodyPost_ret (v := .tuple #[(.string ⟨#[]⟩), (.slice none 0 0), .bool false]) (by simp [results, Tryz.results14, go_sem, k1, k2, k3]) rfl ⟨_, _, _, rfl, ?_, ?_⟩
    · exact OB.nil_ _ _
    · exact (below_setN (below_setN (below_setN hb (by omega) _) (by omega) _) (by omega) _)
end Go.Proofs.YtkpcepdalegmmaaGreatDoor
