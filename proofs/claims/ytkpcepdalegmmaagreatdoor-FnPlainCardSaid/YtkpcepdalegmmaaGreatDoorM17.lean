/- Parts of a proof, laid behind one another: Commands: the walks of ZZCommand, impl.FormatCommand, laws.works. impl.made over a closure that succeeds: a copy of its bytes, true. Commands: impl.FormatCommand, laws.works. Commands: the walks of (*Cmd).unmarshalZMTP, ZZParseCommand. -/
import Derived.Test.YtkpcepdalegmmaaGreatDoorM16
import Derived.Test.YtkpcepdalegmmaaGreatDoorM03
import Derived.Test.YtkpcepdalegmmaaGreatDoorM02
/-! Commands: the walks of ZZCommand, impl.FormatCommand, laws.works. -/
namespace Go.Proofs.YtkpcepdalegmmaaGreatDoor
open Go.RowKit

theorem ZZCommand (name : ByteArray) (body : List UInt8) (A : Option Addr) (m c : Nat) (w : World) (hn : name.size ≤ 255) (hm : m ≤ 2147483647) (hb : RB w w.heap.size A m body) :
    Calls Tryz.prog 17 #[.string name, .slice A m c] w fun e w' => ∃ A' c', e = .returned (.tuple #[.slice A' (1 + name.size + m) c', .nilIface]) ∧ OB w' w.heap.size A' (1 + name.size + m) c' (cmdBytes name body) ∧ Below w.heap.size w w' := by
  go_enter Tryz.func17, Tryz.ntmps17
  go_wp2_with fail
  refine (marshalZMTP _ name body A m c _ hn hm (Blk.new _ _ _) (hb.new _)).mono ?_
  rintro e w' ⟨A', c', rfl, ho, hbl⟩
  go_wp2_with fail
  go_ret2
  exact ⟨A', c', rfl, ho.more (by simp), below_new hbl⟩

/-- The closure of FormatCommand. -/
theorem FormatCommand_f (pn pb : Nat) (name : ByteArray) (body : List UInt8) (A : Option Addr) (m c : Nat) (w : World) (hn : name.size ≤ 255) (hm : m ≤ 2147483647)
    (hpn : Blk w pn 9 #[.string name]) (hpb : Blk w pb 23 #[.slice A m c]) (hb : RB w w.heap.size A m body) :
    Calls Tryz.prog 16 #[.pointer (some ⟨pn, 0, none⟩), .pointer (some ⟨pb, 0, none⟩)] w fun e w' => ∃ A' c', e = .returned (.tuple #[.slice A' (1 + name.size + m) c', .nilIface]) ∧ OB w' w.heap.size A' (1 + name.size + m) c' (cmdBytes name body) ∧ Below w.heap.size w w' := by
  have c0 := hpn.cell0
  have c1 := hpb.cell0
  have S_of : ∀ W, Below w.heap.size w W → W.cell? ⟨pn, 0, none⟩ = some (.string name) ∧ W.cell? ⟨pb, 0, none⟩ = some (.slice A m c) ∧ Below w.heap.size w W :=
    fun W hW => ⟨(hW.cell (p := ⟨pn, 0, none⟩) hpn.lt).trans c0, (hW.cell (p := ⟨pb, 0, none⟩) hpb.lt).trans c1, hW⟩
  go_enter Tryz.func16, Tryz.ntmps16
  go_wp2_with fail
  go_region_held3 (fun w' => w'.cell? ⟨pn, 0, none⟩ = some (.string name) ∧ w'.cell? ⟨pb, 0, none⟩ = some (.slice A m c) ∧ Below w.heap.size w w')
    ((first | exact S_of _ (Below.refl _ _).drew | exact S_of _ ((Below.refl _ _).drew.alloc (Nat.le_refl _) _) | exact S_of _ (by assumption)))
    (first
      | (go_at_call 17
         refine (ZZCommand name body _ _ _ _ hn hm ho1.rb).mono ?_
         rintro e w2 ⟨A2, c2, rfl, ho2, hb2⟩
         have hb3 := below_seq hb1 hb2 hb1.size)
      | (with_reducible refine st_at 7 ?_
         refine st_appB rfl (.tmp 5) (.tmp 6) 23 rfl w.heap.size _ 0 0 [] rfl (OB.lit0 _ _ (Nat.le_refl _)) _ _ _ rfl (srcB (hb.below ?_)) m (Nat.zero_add m) (by omega) (by simp) ?_
         exact ((Below.refl _ _).drew.alloc (Nat.le_refl _) _)
         intro A1 c1' w1 ho1 hg1 ha1
         have hb1 : Below w.heap.size w w1 := ((Below.refl _ _).drew.alloc (Nat.le_refl _) _).grown hg1 (by simp) (fun k hk => by cases hk; exact Nat.le_refl _)))
  go_wp2_with fail
  go_ret2
  exact ⟨A2, c2, rfl, ho2.more hb1.size, hb3⟩
end Go.Proofs.YtkpcepdalegmmaaGreatDoor

/-! impl.made over a closure that succeeds: a copy of its bytes, true. -/
namespace Go.Proofs.YtkpcepdalegmmaaGreatDoor
open Go.RowKit

/-- What a closure handed to 'made' comes to: bytes, no error. -/
def Makes (W : World) (n : Nat) (l : List UInt8) (e : Ending) (w' : World) : Prop :=
  ∃ A c, e = .returned (.tuple #[.slice A n c, .nilIface]) ∧ RB w' w'.heap.size A n l ∧ Below W.heap.size W w'

theorem made_f (k : FuncId) (caps : Array Value) (pf po pk : Nat) (n : Nat) (l : List UInt8) (w : World) (hin : ∀ W : World, (callFunc k caps).run Tryz.prog W = .ok (.enter k caps) W)
    (h : Calls Tryz.prog k caps w (Makes w n l)) (hn : n ≤ 1099511627776)
    (hf : Blk w pf 33 #[.func (.func k) #[] caps]) (ho : Blk w po 23 #[.slice none 0 0]) (hk : Blk w pk 4 #[.bool false]) :
    Calls Tryz.prog 31 #[.pointer (some ⟨pf, 0, none⟩), .pointer (some ⟨po, 0, none⟩), .pointer (some ⟨pk, 0, none⟩)] w fun e w' => e = .returned (.tuple #[]) ∧ ∃ A c w1, OB w1 w.heap.size A n c l ∧ Below w.heap.size w w1 ∧
      w' = (w1.setCell ⟨po, 0, none⟩ (.slice A n c)).setCell ⟨pk, 0, none⟩ (.bool true) := by
  have cf := hf.cell0
  go_enter Tryz.func31, Tryz.ntmps31
  go_wp2_with fail
  refine h.mono ?_
  rintro e w1 ⟨A, c, rfl, ho1, hb1⟩
  clear cf
  have co := (ho.after hb1 (Nat.le_refl _)).cell0
  have ck := (hk.after hb1 (Nat.le_refl _)).cell0
  go_wp2_with fail
  have hne : ¬ po = pk := (ho.ne_ hk (by decide))
  have hne' : ¬ pk = po := fun e => hne e.symm
  have ho' := ho.after hb1 (Nat.le_refl _)
  have hk' := hk.after hb1 (Nat.le_refl _)
  clear co ck
  go_region_held3 (fun _ => True) (trivial)
    (first
      | (with_reducible refine st_at 12 ?_
         refine st_appB rfl (.tmp 10) (.tmp 11) 23 rfl w1.heap.size _ 0 0 [] rfl (OB.lit0 _ _ (Nat.le_refl _)) _ _ _ rfl (srcB (ho1.new _)) n (Nat.zero_add n) (by omega) (by simp) ?_
         intro A2 c2 w2 ho2 hg2 ha2
         have hb2 : Below w1.heap.size w1 w2 := ((Below.refl _ _).drew.alloc (Nat.le_refl _) _).grown hg2 (by simp) (fun k hk => by cases hk; exact Nat.le_refl _)
         have ko2 := (ho'.after hb2 (Nat.le_refl _)).cell0
         have fo2 := (ho'.after hb2 (Nat.le_refl _)).frozen 0
         have kk2 := (hk'.after hb2 (Nat.le_refl _)).cell0
         have fk2 := (hk'.after hb2 (Nat.le_refl _)).frozen 0))
  go_wp2_with fail
  go_end0
  exact ⟨rfl, A2, c2, w2, ho2.more hb1.size, below_seq hb1 hb2 hb1.size, rfl⟩

theorem made_any (k : FuncId) (caps : Array Value) (n : Nat) (l : List UInt8) (w : World) (hin : ∀ W : World, (callFunc k caps).run Tryz.prog W = .ok (.enter k caps) W)
    (h : ∀ W : World, Below w.heap.size w W → Calls Tryz.prog k caps W (Makes W n l)) (hn : n ≤ 1099511627776) :
    Calls Tryz.prog 15 #[.func (.func k) #[] caps] w fun e w' => ∃ A c, e = .returned (.tuple #[.slice A n c, .bool true]) ∧ OB w' w.heap.size A n c l ∧ Below w.heap.size w w' := by
  have hmf : ∀ (fn : Fn) (first cap : Array Value) (w : World), (Instr.makeFunc fn first cap).run Tryz.prog w = .ok (.func fn first cap) w := fun _ _ _ _ => rfl
  have hin' : ∀ (caps : Array Value) (W : World), (callFunc 31 caps).run Tryz.prog W = .ok (.enter 31 caps) W := fun _ _ => by simp [go_sem]
  go_enter Tryz.func15, Tryz.ntmps15
  go_wp2_with fail
  refine (quietly_any 31 _ _ (fun b w' => b = true ∧ ∃ A c, OB w' (w.heap.size + 4) A n c l ∧ Blk w' (w.heap.size + 1) 23 #[.slice A n c] ∧ Blk w' (w.heap.size + 1 + 1) 4 #[.bool true] ∧ Below w.heap.size w w') (hin' _) ?_).mono ?_
  · have b1 := Blk.new w 33 #[.func (.func k) #[] caps]
    have b2 := Blk.new (w.alloc (.cells #[.func (.func k) #[] caps] 33)) 23 #[.slice none 0 0]
    have b3 := Blk.new ((w.alloc (.cells #[.func (.func k) #[] caps] 33)).alloc (.cells #[.slice none 0 0] 23)) 4 #[.bool false]
    have b4 := Blk.new (((w.alloc (.cells #[.func (.func k) #[] caps] 33)).alloc (.cells #[.slice none 0 0] 23)).alloc (.cells #[.bool false] 4)) 4 #[.bool false]
    have hb4 : Below w.heap.size w ((((w.alloc (.cells #[.func (.func k) #[] caps] 33)).alloc (.cells #[.slice none 0 0] 23)).alloc (.cells #[.bool false] 4)).alloc (.cells #[.bool false] 4)) :=
      ((((Below.refl _ w).alloc (Nat.le_refl _) _).alloc (by simp) _).alloc (by simp; omega) _).alloc (by simp; omega) _
    have b1' := ((b1.alloc (.cells #[.slice none 0 0] 23)).alloc (.cells #[.bool false] 4)).alloc (.cells #[.bool false] 4)
    have b2' := (b2.alloc (.cells #[.bool false] 4)).alloc (.cells #[.bool false] 4)
    have b3' := b3.alloc (.cells #[.bool false] 4)
    have e4 : ((((w.alloc (.cells #[.func (.func k) #[] caps] 33)).alloc (.cells #[.slice none 0 0] 23)).alloc (.cells #[.bool false] 4)).alloc (.cells #[.bool false] 4)).heap.size = w.heap.size + 4 := by simp
    generalize ((((w.alloc (.cells #[.func (.func k) #[] caps] 33)).alloc (.cells #[.slice none 0 0] 23)).alloc (.cells #[.bool false] 4)).alloc (.cells #[.bool false] 4)) = W4 at *
    simp only [World.size_alloc] at *
    refine (made_f k caps w.heap.size (w.heap.size + 1) (w.heap.size + 1 + 1) n l W4 hin (h W4 hb4) hn b1' b2' b3').mono ?_
    rintro e w' ⟨rfl, A, c, w1, ho, hbw, rfl⟩
    rw [e4] at ho hbw
    have q1 := b2'.below hbw (by omega)
    have q2 := b3'.below hbw (by omega)
    have q3 := b4.below hbw (by omega)
    have n1 := ((q1.setN (.slice A n c)).farN (b := w.heap.size + 1 + 1) (o := 0) (by omega) (.bool true))
    have n2 := ((q2.farN (b := w.heap.size + 1) (o := 0) (by omega) (.slice A n c)).setN (.bool true))
    have n3 := ((q3.farN (b := w.heap.size + 1) (o := 0) (by omega) (.slice A n c)).farN (b := w.heap.size + 1 + 1) (o := 0) (by omega) (.bool true))
    refine ⟨n3.cell0, n3.frozen 0, .inl ⟨rfl, rfl, A, c, ?_, n1, n2, ?_⟩⟩
    · exact (ho.setN (by omega) _).setN (by omega) _
    · exact below_setN (below_setN (hb4.trans (hbw.mono (by omega))) (by omega) _) (by omega) _
  rintro e w' ⟨b, w1, rfl, ⟨rfl, A, c, ho, q1, q2, hb⟩, rfl⟩
  simp only [World.size_alloc]
  have n1 := q1.farN (b := w.heap.size + 1 + 1 + 1) (o := 0) (by omega) (.bool true)
  have n2 := q2.farN (b := w.heap.size + 1 + 1 + 1) (o := 0) (by omega) (.bool true)
  have ho2 : OB (w1.setCell ⟨w.heap.size + 1 + 1 + 1, 0, none⟩ (.bool true)) (w.heap.size + 4) A n c l := ho.setN (by omega) _
  have hb2 := below_setN (b := w.heap.size + 1 + 1 + 1) (o := 0) hb (by omega) (.bool true)
  generalize w1.setCell ⟨w.heap.size + 1 + 1 + 1, 0, none⟩ (.bool true) = W at *
  clear q1 q2 ho hb h hin' hmf hin
  have c1 := n1.cell0
  have c2 := n2.cell0
  have f1 := n1.frozen 0
  have f2 := n2.frozen 0
  go_wp2_with fail
  have k1 := ((n1.setN (.slice A n c)).farN (b := w.heap.size + 1 + 1) (o := 0) (by omega) (.bool true)).cell0
  have k2 := ((n2.farN (b := w.heap.size + 1) (o := 0) (by omega) (.slice A n c)).setN (.bool true)).cell0
  refine bodyPost_ret (v := .tuple #[.slice A n c, .bool true]) (by simp [results, Tryz.results15, go_sem, k1, k2]) rfl ⟨A, c, rfl, ?_, ?_⟩
  · exact ((ho2.setN (by omega) _).setN (by omega) _).more (by omega)
  · exact below_setN (below_setN hb2 (by omega) _) (by omega) _
end Go.Proofs.YtkpcepdalegmmaaGreatDoor

/-! Commands: impl.FormatCommand, laws.works. -/
namespace Go.Proofs.YtkpcepdalegmmaaGreatDoor
open Go.RowKit

theorem FormatCommand (name : ByteArray) (body : List UInt8) (A : Option Addr) (m c : Nat) (w : World) (hn : name.size ≤ 255) (hm : m ≤ 2147483647) (hb : RB w w.heap.size A m body) :
    Calls Tryz.prog 7 #[.string name, .slice A m c] w fun e w' => ∃ A' c', e = .returned (.tuple #[.slice A' (1 + name.size + m) c', .bool true]) ∧ OB w' w.heap.size A' (1 + name.size + m) c' (cmdBytes name body) ∧ Below w.heap.size w w' := by
  have hmf : ∀ (fn : Fn) (first cap : Array Value) (w : World), (Instr.makeFunc fn first cap).run Tryz.prog w = .ok (.func fn first cap) w := fun _ _ _ _ => rfl
  go_enter Tryz.func7, Tryz.ntmps7
  go_wp2_with fail
  refine (made_any 16 _ (1 + name.size + m) (cmdBytes name body) _ (fun W => by simp [go_sem]) ?_ (by omega)).mono ?_
  · intro W hW
    have b1 := (Blk.new w 9 #[.string name]).alloc (.cells #[.slice A m c] 23)
    have b2 := Blk.new (w.alloc (.cells #[.string name] 9)) 23 #[.slice A m c]
    rw [World.size_alloc] at b2
    have hr := (hb.new (.cells #[.string name] 9)).new (.cells #[.slice A m c] 23)
    exact (FormatCommand_f _ _ name body A m c W hn hm (b1.after hW (Nat.le_refl _)) (b2.after hW (Nat.le_refl _)) (hr.after hW)).mono fun e w' ⟨A', c', he, ho, hb⟩ => ⟨A', c', he, ho.rb, hb⟩
  rintro e w' ⟨A', c', rfl, ho, hbl⟩
  go_wp2_with fail
  go_ret2
  exact ⟨A', c', rfl, ho.more (by simp; omega), below_new (below_new hbl)⟩

theorem works_any (w : World) : Calls Tryz.prog 4 #[] w fun e w' => e = .returned (.bool true) ∧ Below w.heap.size w w' := by
  go_enter Tryz.func4, Tryz.ntmps4
  go_wp2_with fail
  refine (FormatCommand ⟨#[65]⟩ [] none 0 0 w (by decide) (by omega) RB.nil_).mono ?_
  rintro e w' ⟨A', c', rfl, ho, hbl⟩
  have hsize : (⟨#[65]⟩ : ByteArray).size = 1 := rfl
  have hcmd : cmdBytes ⟨#[65]⟩ [] = [1, 65] := rfl
  rw [hsize] at ho ⊢
  rw [hcmd] at ho
  have hstr := run_strB (c := c') ho.rb
  clear hsize hcmd
  go_wp2_with fail
  go_ret
  exact ⟨rfl, hbl⟩
end Go.Proofs.YtkpcepdalegmmaaGreatDoor

/-! Commands: the walks of (*Cmd).unmarshalZMTP, ZZParseCommand. -/
namespace Go.Proofs.YtkpcepdalegmmaaGreatDoor
open Go.RowKit

/-- What a command that is none comes to: an error, nothing written. -/
def BadCmd (w : World) (e : Ending) (w' : World) : Prop := (∃ s, e = .returned (.iface 87 (.string s))) ∧ w = w'

theorem unmarshal_none (p : Addr) (A : Option Addr) (c : Nat) (w : World) : Calls Tryz.prog 43 #[.pointer (some p), .slice A 0 c] w (BadCmd w) := by
  go_enter Tryz.func43, Tryz.ntmps43
  go_wp2
  go_ret
  exact ⟨⟨_, rfl⟩, rfl⟩

theorem unmarshal_cut (p : Addr) (A : Option Addr) (n c : Nat) (k : UInt8) (l : List UInt8) (w : World) {B : Nat} (hr : RB w B A n (k :: l)) (hn : n ≤ 2147483647) (hk : n ≤ k.toNat) :
    Calls Tryz.prog 43 #[.pointer (some p), .slice A n c] w (BadCmd w) := by
  have hlen := hr.len
  simp only [List.length_cons] at hlen
  obtain ⟨ad, rfl, hb, hc⟩ := hr.cell (k := 0) (by omega)
  rw [Addr.add_zero'] at hc
  simp only [List.getD_cons_zero] at hc
  have h1 : 1 ≤ n := by omega
  have e0 : ((n : Int) == 0) = false := by rw [beq_eq_false_iff_ne]; omega
  have hk' := k.toNat_lt
  clear hr hlen
  go_enter Tryz.func43, Tryz.ntmps43
  go_wp2
  go_ret
  exact ⟨⟨_, rfl⟩, rfl⟩

set_option maxRecDepth 100000 in
theorem unmarshal_ok (g : Nat) (x y : Value) (A : Option Addr) (n c : Nat) (k : UInt8) (l : List UInt8) (w : World) {B : Nat} (hg : Blk w g 77 #[x, y]) (hr : RB w B A n (k :: l)) (hc : n ≤ c) (hn : n ≤ 2147483647) (hk : k.toNat < n) :
    Calls Tryz.prog 43 #[.pointer (some ⟨g, 0, none⟩), .slice A n c] w fun e w' => e = .returned .nilIface ∧
      w' = (w.setCell ⟨g, 0, none⟩ (.string ⟨(l.take k.toNat).toArray⟩)).setCell ⟨g, 1, none⟩ (.slice (cutA A c (k.toNat + 1)) (n - (k.toNat + 1)) (c - (k.toNat + 1))) := by
  have hs : ∀ W, (Instr.slice 23 (.slice A n c) (some (.int .i64 1)) (some (.int .i64 ((k.toNat : Int) + 1))) none).run Tryz.prog W = .ok (.slice (cutA A c 1) k.toNat (c - 1)) W := fun W => run_slice_lh A n c W 1 (k.toNat + 1) (by omega) (by omega)
  have hs2 : ∀ W, (Instr.slice 23 (.slice A n c) (some (.int .i64 ((k.toNat : Int) + 1))) none none).run Tryz.prog W = .ok (.slice (cutA A c (k.toNat + 1)) (n - (k.toNat + 1)) (c - (k.toNat + 1))) W := fun W => run_slice_lo A n c W (k.toNat + 1) (by omega)
  have hstr := run_strB (c := c - 1) (hr.cutA_ (lo := 1) (hi := k.toNat + 1) (by omega) (by omega) hc)
  have hlen := hr.len
  simp only [List.length_cons] at hlen
  obtain ⟨ad, hA, hb, hcell⟩ := hr.cell (k := 0) (by omega)
  rw [Addr.add_zero'] at hcell
  simp only [List.getD_cons_zero, List.drop_succ_cons, List.drop_zero, Nat.add_sub_cancel] at hcell hstr
  have h1 : 1 ≤ n := by omega
  have e0 : ((n : Int) == 0) = false := by rw [beq_eq_false_iff_ne]; omega
  have hk' := k.toNat_lt
  clear hr hlen
  generalize cutA A c 1 = A1 at *
  generalize cutA A c (k.toNat + 1) = A2 at *
  have d0 := hg.cell 0
  have d1 := hg.cell 1
  have f0 := hg.frozen 0
  have f1 := hg.frozen 1
  simp only [List.getElem?_toArray, List.getElem?_cons_zero, List.getElem?_cons_succ] at d0 d1
  subst hA
  go_enter Tryz.func43, Tryz.ntmps43
  go_wp2
  go_ret
  exact ⟨rfl, rfl⟩

theorem unmarshal_bad (p : Addr) (A : Option Addr) (n c : Nat) (l : List UInt8) (w : World) {B : Nat} (hr : RB w B A n l) (hn : n ≤ 2147483647) (hk : ∀ k r, l = k :: r → n ≤ k.toNat) :
    Calls Tryz.prog 43 #[.pointer (some p), .slice A n c] w (BadCmd w) := by
  cases l with
  | nil =>
    obtain rfl : n = 0 := hr.len.symm
    exact unmarshal_none p A c w
  | cons k r => exact unmarshal_cut p A n c k r w hr hn (hk k r rfl)

theorem ZZParse_cut (A : Option Addr) (n c : Nat) (l : List UInt8) (w : World) (hr : RB w w.heap.size A n l) (hn : n ≤ 2147483647) (hk : ∀ k r, l = k :: r → n ≤ k.toNat) :
    Calls Tryz.prog 30 #[.slice A n c] w fun e w' => (∃ s, e = .returned (.tuple #[.agg #[.string ⟨#[]⟩, .slice none 0 0], .iface 87 (.string s)])) ∧ Below w.heap.size w w' := by
  go_enter Tryz.func30, Tryz.ntmps30
  go_wp2_with fail
  refine (unmarshal_bad _ A n c l _ ((hr.new _).new _) hn hk).mono ?_
  rintro e w' ⟨⟨s, rfl⟩, rfl⟩
  go_wp2_with fail
  refine bodyPost_ret (v := .tuple #[.agg #[.string ⟨#[]⟩, .slice none 0 0], .iface 87 (.string s)]) (by simp [results, Tryz.results30, go_sem]) rfl ⟨⟨s, rfl⟩, ?_⟩
  exact below_new (below_new (Below.refl _ _))

theorem ZZParse_ok (A : Option Addr) (n c : Nat) (k : UInt8) (l : List UInt8) (w : World) (hr : RB w w.heap.size A n (k :: l)) (hc : n ≤ c) (hn : n ≤ 2147483647) (hk : k.toNat < n) :
    Calls Tryz.prog 30 #[.slice A n c] w fun e w' => (∃ A2 n2 c2, e = .returned (.tuple #[.agg #[.string ⟨(l.take k.toNat).toArray⟩, .slice A2 n2 c2], .nilIface]) ∧ RB w' w.heap.size A2 n2 (l.drop k.toNat) ∧ n2 ≤ 2147483647) ∧ Below w.heap.size w w' := by
  have hr2 := hr.cutEnd (lo := k.toNat + 1) (by omega) hc
  rw [List.drop_succ_cons] at hr2
  go_enter Tryz.func30, Tryz.ntmps30
  go_wp2_with fail
  have b2 := Blk.new (w.alloc (.cells #[.string ⟨#[]⟩, .slice none 0 0] 77)) 77 #[.string ⟨#[]⟩, .slice none 0 0]
  rw [World.size_alloc] at b2
  refine (unmarshal_ok (w.heap.size + 1) _ _ A n c k l _ b2 ((hr.new _).new _) hc hn hk).mono ?_
  rintro e w' ⟨rfl, rfl⟩
  go_wp2_with fail
  refine bodyPost_ret (v := .tuple #[.agg #[.string ⟨(l.take k.toNat).toArray⟩, .slice (cutA A c (k.toNat + 1)) (n - (k.toNat + 1)) (c - (k.toNat + 1))], .nilIface])
    (by simp [results, Tryz.results30, go_sem]) rfl ⟨⟨_, _, _, rfl, ?_, by omega⟩, ?_⟩
  · exact (hr2.alloc (Nat.le_refl _) _).alloc (by simp) _
  · exact below_new (below_new (Below.refl _ _))
end Go.Proofs.YtkpcepdalegmmaaGreatDoor
