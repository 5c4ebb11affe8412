/- Parts of a proof, laid behind one another: PLAIN: the client's connection; SendCmd, RecvCmd. Greetings: ZZGreeting, impl.FormatGreeting. -/
import Derived.Test.YtkpcepdalegmmaaGreatDoorM14
import Derived.Test.YtkpcepdalegmmaaGreatDoorM16
import Derived.Test.YtkpcepdalegmmaaGreatDoorM18
import Derived.Test.YtkpcepdalegmmaaGreatDoorM19
import Derived.Test.YtkpcepdalegmmaaGreatDoorM04
import Derived.Test.YtkpcepdalegmmaaGreatDoorM17
/-! PLAIN: the client's connection; SendCmd, RecvCmd. -/
namespace Go.Proofs.YtkpcepdalegmmaaGreatDoor
open Go.RowKit

/-- Below B nothing has turned but the blocks ps. -/
structure Keep (B : Nat) (ps : List Nat) (w w' : World) : Prop where
  os : w'.os = w.os
  tape : w'.tape = w.tape
  output : w'.output = w.output
  size : w.heap.size ≤ w'.heap.size
  block : ∀ i, i < B → i ∉ ps → w'.heap[i]? = w.heap[i]?
section
variable {B : Nat} {ps : List Nat} {a b c : World}
theorem Keep.refl (B : Nat) (ps : List Nat) (w : World) : Keep B ps w w := ⟨rfl, rfl, rfl, Nat.le_refl _, fun _ _ _ => rfl⟩
theorem Keep.trans (h : Keep B ps a b) (k : Keep B ps b c) : Keep B ps a c := ⟨k.os.trans h.os, k.tape.trans h.tape, k.output.trans h.output, Nat.le_trans h.size k.size, fun i hi hn => (k.block i hi hn).trans (h.block i hi hn)⟩
theorem Keep.more {qs : List Nat} (h : Keep B ps a b) (hs : ∀ k ∈ ps, k ∈ qs) : Keep B qs a b := ⟨h.os, h.tape, h.output, h.size, fun i hi hn => h.block i hi fun hm => hn (hs i hm)⟩
theorem Keep.less {B' : Nat} (h : Keep B ps a b) (hB : B' ≤ B) : Keep B' ps a b := ⟨h.os, h.tape, h.output, h.size, fun i hi hn => h.block i (Nat.lt_of_lt_of_le hi hB) hn⟩
theorem Keep.of_apart {qs : List Nat} (h : Apart qs a b) (hq : ∀ k ∈ qs, k ∈ ps ∨ B ≤ k) (hB : B ≤ a.heap.size) : Keep B ps a b :=
  ⟨h.os, h.tape, h.output, h.size, fun i hi hn => h.block i (by omega) fun hm => by
    rcases hq i hm with h1 | h1
    · exact hn h1
    · omega⟩
theorem Keep.of_below {C : Nat} (h : Below C a b) (hB : B ≤ C) : Keep B ps a b := ⟨h.os, h.tape, h.output, h.size, fun i hi _ => h.block i (by omega)⟩
theorem Keep.blk (h : Keep B ps a b) {g : Nat} {t : TypeId} {cs : Array Value} (hg : Blk a g t cs) (hl : g < B) (hn : g ∉ ps) : Blk b g t cs := (h.block g hl hn).trans hg
theorem Keep.below (h : Keep B ps a b) {C : Nat} (hC : C ≤ B) (hp : ∀ k ∈ ps, C ≤ k) : Below C a b := ⟨h.os, h.tape, h.output, h.size, fun i hi => h.block i (by omega) fun hm => by have := hp i hm; omega⟩
theorem Keep.map (h : Keep B ps a b) {g n : Nat} {D : DataW Unit} (hm : World.ownsMap a Tryz.prog 9 (plainElem Tryz.prog 9) g n D) (hl : g < B) (hn : g ∉ ps) : World.ownsMap b Tryz.prog 9 (plainElem Tryz.prog 9) g n D := by
  obtain ⟨es, clock, hb, r⟩ := hm
  exact ⟨es, clock, (h.block g hl hn).trans hb, r⟩
end

def reqS : ByteArray := ⟨#[82, 69, 81]⟩
/-- The client's connection, cell by cell. -/
def pcells (p sc m1 : Nat) (pm m2 : Value) (ps : Bool) : Array Value :=
  #[.string reqS, .slice none 0 0, .iface 34 (.pointer (some ⟨p, 0, none⟩)), .iface 68 (.pointer (some ⟨sc, 0, none⟩)), .bool false, .map (some m1), .bool ps, pm, m2, .bool false, .nilFunc]
/-- Where the client stands: the connection, the security, the pipe with what is to be read and what was written. -/
structure Cli (p sc cn m1 B K : Nat) (pm m2 : Value) (ps : Bool) (sa sb : Value) (IA : Option Addr) (n c : Nat) (inb : List UInt8) (OA : Option Addr) (on oc : Nat) (outb : List UInt8) (w : World) : Prop where
  conn : Blk w cn 65 (pcells p sc m1 pm m2 ps)
  secb : Blk w sc 70 #[sa, sb]
  pipe : Blk w p 36 #[.slice IA n c, .slice OA on oc]
  inb : RB w K IA n inb
  nc : n ≤ c ∧ n ≤ 1000000
  out : OB w B OA on oc outb
  ord : K ≤ p ∧ p < sc ∧ sc < cn ∧ cn < B ∧ B ≤ w.heap.size
section
variable {p sc cn m1 B K : Nat} {pm m2 : Value} {ps : Bool} {sa sb : Value} {IA : Option Addr} {n c : Nat} {inb : List UInt8} {OA : Option Addr} {on oc : Nat} {outb : List UInt8} {w w' : World}
theorem Cli.pc (h : Cli p sc cn m1 B K pm m2 ps sa sb IA n c inb OA on oc outb w) : PConn w cn p sc sa sb := ⟨⟨_, h.conn, rfl, rfl, rfl⟩, h.secb⟩
theorem Cli.next (h : Cli p sc cn m1 B K pm m2 ps sa sb IA n c inb OA on oc outb w) {qs : List Nat} (hk : Keep B qs w w') (hq : ∀ k ∈ qs, k ≠ sc ∧ k ≠ cn ∧ K ≤ k) {IA' : Option Addr} {n' c' : Nat} {inb' : List UInt8} {OA' : Option Addr} {on' oc' : Nat} {outb' : List UInt8}
    (hp : Blk w' p 36 #[.slice IA' n' c', .slice OA' on' oc']) (hin : RB w' K IA n inb → RB w' K IA' n' inb') (hnc : n' ≤ c' ∧ n' ≤ n) (ho : OB w' B OA' on' oc' outb') : Cli p sc cn m1 B K pm m2 ps sa sb IA' n' c' inb' OA' on' oc' outb' w' := by
  have ho1 := h.ord
  have hs := hk.size
  exact ⟨hk.blk h.conn (by omega) (fun hm => (hq _ hm).2.1 rfl), hk.blk h.secb (by omega) (fun hm => (hq _ hm).1 rfl), hp, hin (h.inb.below (hk.below (by omega) (fun k hm => (hq k hm).2.2))), ⟨hnc.1, by have := h.nc; omega⟩, ho, by omega⟩
/-- Blocks above B alone have turned. -/
theorem Cli.below_ (h : Cli p sc cn m1 B K pm m2 ps sa sb IA n c inb OA on oc outb w) (hb : Below w.heap.size w w') : Cli p sc cn m1 B K pm m2 ps sa sb IA n c inb OA on oc outb w' := by
  have ho1 := h.ord
  exact h.next (qs := []) (Keep.of_below hb (by omega)) (fun k hk => by cases hk) (h.pipe.after hb (Nat.le_refl _)) (fun x => x) ⟨h.nc.1, Nat.le_refl _⟩ ((Apart.of_below hb).ob h.out (ps := []) (fun _ _ => by simp))
end

/-- What a command sent leaves. -/
def CmdSent (p sc cn m1 B K : Nat) (pm m2 : Value) (ps : Bool) (sa sb : Value) (IA : Option Addr) (n c : Nat) (inb : List UInt8) (OA : Option Addr) (on : Nat) (outb add : List UInt8) (w : World) (e : Ending) (w' : World) : Prop :=
  e = .returned .nilIface ∧ Apart (sendBlocks p OA) w w' ∧ ∃ OA' oc', Cli p sc cn m1 B K pm m2 ps sa sb IA n c inb OA' (on + add.length) oc' (outb ++ add) w' ∧ Keep B [p] w w'
set_option maxRecDepth 100000 in
theorem SendCmd (name : ByteArray) (A : Option Addr) (m c0 : Nat) (body : List UInt8) {p sc cn m1 B K : Nat} {pm m2 : Value} {ps : Bool} {sa sb : Value} {IA : Option Addr} {n c : Nat} {inb : List UInt8} {OA : Option Addr} {on oc : Nat} {outb : List UInt8} (w : World)
    (hC : Cli p sc cn m1 B K pm m2 ps sa sb IA n c inb OA on oc outb w) (hb : RB w w.heap.size A m body) (hn : name.size ≤ 100) (hm : m ≤ 800) (hon : on ≤ 1000000) :
    Calls Tryz.prog 135 #[.pointer (some ⟨cn, 0, none⟩), .string name, .slice A m c0] w (CmdSent p sc cn m1 B K pm m2 ps sa sb IA n c inb OA on outb (headF true false (1 + name.size + m) ++ cmdBytes name body) w) := by
  have hol := hC.ord
  have hlen : (cmdBytes name body).length = 1 + name.size + m := by
    have h1 := hb.len
    simp [cmdBytes]
    have : name.data.size = name.size := rfl
    omega
  have HC := Lib.hid (⟨hC, hb, hlen⟩ : _ ∧ _ ∧ _)
  clear hC hb hlen
  go_enter Tryz.func135, Tryz.ntmps135
  go_wp2_with fail
  refine (Closed cn p sc sa sb _ HC.out.1.pc).mono ?_
  rintro e w1 ⟨rfl, rfl⟩
  go_wp2_with fail
  refine (marshalZMTP w1.heap.size name body A m c0 _ (by omega) (by omega) (Blk.new w1 77 #[.string name, .slice A m c0]) (HC.out.2.1.new _)).mono ?_
  rintro e w2 ⟨A2, c2, rfl, ho2, hb2⟩
  have hb12 : Below w1.heap.size w1 w2 := below_new hb2
  have hC2 := HC.out.1.below_ hb12
  have hA2 : ∀ ad, A2 = some ad → ad.block ≠ p ∧ some ad.block ≠ OA.map (·.block) := fun ad e => by
    have h1 := (ho2.block e).1
    rw [World.size_alloc] at h1
    refine ⟨by omega, fun e2 => ?_⟩
    cases OA with
    | none => cases e2
    | some ad2 =>
      have := (HC.out.1.out.block rfl).2
      simp at e2
      omega
  have hsd : Calls Tryz.prog 52 #[.pointer (some ⟨cn, 0, none⟩), .bool true, .slice A2 (1 + name.size + m) c2, .int .u8 0] w2 (Sent w2 B p on (.slice IA n c) OA outb (headF true false (1 + name.size + m) ++ cmdBytes name body)) := by
    have hor := hC2.ord
    by_cases hs : 1 + name.size + m ≤ 255
    · exact psend_s cn p sc B on oc _ c2 sa sb _ OA A2 outb _ w2 hC2.pipe hC2.out ho2.rb hs (by omega) hC2.pc (by omega) (by omega) (by omega) (by omega) (by omega) hA2
    · exact psend_l cn p sc B on oc _ c2 sa sb _ OA A2 outb _ w2 hC2.pipe hC2.out ho2.rb ⟨hs, by omega⟩ (by omega) hC2.pc (by omega) (by omega) (by omega) (by omega) (by omega) hA2
  have HD := Lib.hid (⟨hsd, hC2, hb12⟩ : _ ∧ _ ∧ _)
  clear hsd hC2 hb12 ho2 hb2 hA2
  go_wp2_with fail
  refine HD.out.1.mono ?_
  rintro e w3 hs3
  obtain ⟨rfl, OA', on', oc', hp3, ho3, hon3, ha3⟩ := hs3
  have hor := HD.out.2.1.ord
  have hk3 : Keep B [p] w2 w3 := Keep.of_apart ha3 (fun k hk => by
    simp only [sendBlocks, List.mem_cons, Option.mem_toList] at hk
    rcases hk with rfl | hk
    · exact .inl (by simp)
    · exact .inr (HD.out.2.1.out.base_le hk)) (by omega)
  subst hon3
  have hF : CmdSent p sc cn m1 B K pm m2 ps sa sb IA n c inb OA on outb (headF true false (1 + name.size + m) ++ cmdBytes name body) w1 (.returned .nilIface) w3 :=
    ⟨rfl, (Apart.of_below HD.out.2.2).trans ha3, OA', oc', HD.out.2.1.next hk3 (fun k hk => by simp at hk; omega) hp3 (fun x => x) ⟨HD.out.2.1.nc.1, Nat.le_refl _⟩ ho3, (Keep.of_below HD.out.2.2 (by omega)).trans hk3⟩
  have HF := Lib.hid hF
  clear hF hp3 ho3 ha3 hk3 HD HC
  go_wp2_with fail
  go_ret
  exact HF.out

theorem cutA_block {A : Option Addr} {c k : Nat} {ad : Addr} (h : cutA A c k = some ad) : ∃ ad0, A = some ad0 ∧ ad.block = ad0.block := by
  unfold cutA at h
  split at h
  · exact ⟨ad, h, rfl⟩
  · cases A with
    | none => cases h
    | some a0 =>
      simp at h
      exact ⟨a0, rfl, by rw [← h, block_of_add]⟩
/-- What a command received leaves. -/
def CmdGot (p sc cn m1 B K : Nat) (pm m2 : Value) (ps : Bool) (sa sb : Value) (n : Nat) (rest : List UInt8) (OA : Option Addr) (on oc : Nat) (outb : List UInt8) (name : ByteArray) (body : List UInt8) (w : World) (e : Ending) (w' : World) : Prop :=
  ∃ (gb cB : Nat) (IA' : Option Addr) (c' : Nat), e = .returned (.tuple #[.agg #[.string name, .slice (cutA (some ⟨gb, 0, none⟩) cB (name.size + 1)) body.length (cB - (name.size + 1))], .nilIface]) ∧ BB w' gb 5 (cmdBytes name body ++ List.replicate (cB - (1 + name.size + body.length)) 0) ∧ B ≤ gb ∧ 1 + name.size + body.length ≤ cB ∧
    Cli p sc cn m1 B K pm m2 ps sa sb IA' (n - 2 - (1 + name.size + body.length)) c' rest OA on oc outb w' ∧ Keep B [p] w w' ∧ Apart [p] w w'
set_option maxRecDepth 100000 in
theorem RecvCmd (name : ByteArray) (body rest : List UInt8) {p sc cn m1 B K : Nat} {pm m2 : Value} {ps : Bool} {sa sb : Value} {IA : Option Addr} {n c : Nat} {OA : Option Addr} {on oc : Nat} {outb : List UInt8} (w : World)
    (hC : Cli p sc cn m1 B K pm m2 ps sa sb IA n c ([4, UInt8.ofNat (1 + name.size + body.length)] ++ (cmdBytes name body ++ rest)) OA on oc outb w) (hn : 1 + name.size + body.length ≤ 255) :
    Calls Tryz.prog 133 #[.pointer (some ⟨cn, 0, none⟩)] w (CmdGot p sc cn m1 B K pm m2 ps sa sb n rest OA on oc outb name body w) := by
  have hol := hC.ord
  have hnc := hC.nc
  have hlen : (cmdBytes name body).length = 1 + name.size + body.length := by
    simp [cmdBytes]
    have : name.data.size = name.size := rfl
    omega
  have HC := Lib.hid (⟨hC, hlen⟩ : _ ∧ _)
  clear hC hlen
  go_enter Tryz.func133, Tryz.ntmps133
  go_wp2_with fail
  have hb0 : Below w.heap.size w ((w.alloc (.cells #[.string ⟨#[]⟩, .slice none 0 0] 77)).alloc (.cells #[.string ⟨#[]⟩, .slice none 0 0] 77)) := ((Below.refl _ _).alloc (Nat.le_refl _) _).alloc (by simp) _
  have hC0 := HC.out.1.below_ hb0
  have hr0 := (Blk.new w 77 #[.string ⟨#[]⟩, .slice none 0 0]).alloc (.cells #[.string ⟨#[]⟩, .slice none 0 0] 77)
  have hg0 := Blk.new (w.alloc (.cells #[.string ⟨#[]⟩, .slice none 0 0] 77)) 77 #[.string ⟨#[]⟩, .slice none 0 0]
  rw [World.size_alloc] at hg0
  have hz2 : ((w.alloc (.cells #[.string ⟨#[]⟩, .slice none 0 0] 77)).alloc (.cells #[.string ⟨#[]⟩, .slice none 0 0] 77)).heap.size = w.heap.size + 2 := by simp
  generalize (w.alloc (.cells #[.string ⟨#[]⟩, .slice none 0 0] 77)).alloc (.cells #[.string ⟨#[]⟩, .slice none 0 0] 77) = W at *
  have hsz0 := hb0.size
  have H0 := Lib.hid (⟨hb0, hC0, hg0, hr0⟩ : _ ∧ _ ∧ _ ∧ _)
  clear hb0 hC0 hg0 hr0
  refine (Closed cn p sc sa sb _ H0.out.2.1.pc).mono ?_
  rintro e w1 ⟨rfl, rfl⟩
  go_wp2_with fail
  refine (PRead p cn sc K (1 + name.size + body.length) sa sb IA n c (.slice OA on oc) (cmdBytes name body) rest w1 H0.out.2.1.pipe H0.out.2.1.inb HC.out.2 hn (by omega) hnc.1 (by omega) H0.out.2.1.pc (by omega) (by omega) hol.1).mono ?_
  rintro e w2 ⟨IA', c', FA, gb, fc, cB, rfl, hof, ⟨hoB, hgb, hcB⟩, hp2, hr2, hnc2, ha2⟩
  have hor := H0.out.2.1.ord
  have hk2 : Keep B [p] w1 w2 := Keep.of_apart ha2 (fun k hk => .inl hk) (by omega)
  have hC2 := H0.out.2.1.next hk2 (fun k hk => by simp at hk; omega) hp2 (fun _ => hr2) ⟨hnc2, by omega⟩ (ha2.ob H0.out.2.1.out (fun ad e => by have := (H0.out.2.1.out.block e).1; simp; omega))
  have hg2 := ha2.blk H0.out.2.2.1 (by simp; omega)
  have hq2 := ha2.blk H0.out.2.2.2 (by simp; omega)
  have H2 := Lib.hid (⟨hof, hoB, hC2, hk2, hg2, hq2⟩ : _ ∧ _ ∧ _ ∧ _ ∧ _ ∧ _)
  have HA2 := Lib.hid ha2
  clear hof hoB hp2 hr2 hnc2 ha2 hk2 hC2 hg2 hq2
  go_wp2_with fail
  have hmb := Blk.new w2 110 #[.slice FA 1 fc, .int .u8 1, .bool false, .nilIface]
  have hbl2 : Below w2.heap.size w2 (w2.alloc (.cells #[.slice FA 1 fc, .int .u8 1, .bool false, .nilIface] 110)) := (Below.refl _ _).alloc (Nat.le_refl _) _
  refine (isCmd _ _ _ 1 true rfl _).mono ?_
  rintro e w3 ⟨rfl, hb3⟩
  have hb23 : Below w2.heap.size w2 w3 := below_seq hbl2 hb3 hbl2.size
  have hmb3 := hmb.after hb3 (Nat.le_refl _)
  have x0 := hmb3.cell 0
  simp only [List.getElem?_toArray, List.getElem?_cons_zero] at x0
  obtain ⟨g, rfl, hgB, hg3⟩ : ∃ g, FA = some ⟨g, 0, none⟩ ∧ w1.heap.size ≤ g ∧ w3.cell? ⟨g, 0, none⟩ = some (.slice (some ⟨gb, 0, none⟩) (1 + name.size + body.length) cB) := by
    have ho3 := (Apart.of_below hb23).own H2.out.1 (ps := []) (fun _ _ => by simp)
    rcases ho3.2 with ⟨_, h0⟩ | ⟨g, cap, cur, hv, hbase, hbk, _, _, _, h4⟩
    · cases h0
    · injection hv with hA _ _
      refine ⟨g, hA, hbase, ?_⟩
      rw [cell_of_row w3 g 0 cur _ (0, 0) hbk, ← Array.getElem?_toList]
      have h5 : (cur.toList.take (1 * 1))[0]? = some (.slice (some ⟨gb, 0, none⟩) (1 + name.size + body.length) cB) := by rw [h4]; rfl
      rwa [List.getElem?_take_of_lt (by decide)] at h5
  have hek : (UInt8.ofNat name.size).toNat = name.size := by simp; omega
  have hbb3 := BB.after H2.out.2.1 hb23 (Nat.le_refl _)
  have hrb3 : RB w3 w3.heap.size (some ⟨gb, 0, none⟩) (1 + name.size + body.length) (UInt8.ofNat name.size :: (name.data.toList ++ body)) := by
    have h := hbb3.rb (o := 0) (n := 1 + name.size + body.length) (by rw [List.length_append, HC.out.2]; omega)
    rw [List.drop_zero, ← HC.out.2, List.take_left, HC.out.2] at h
    exact h
  have hum := unmarshal_ok (w.heap.size + 1) (.string ⟨#[]⟩) (.slice none 0 0) (some ⟨gb, 0, none⟩) (1 + name.size + body.length) cB (UInt8.ofNat name.size) (name.data.toList ++ body) w3 (H2.out.2.2.2.2.1.after hb23 (Nat.le_refl _)) hrb3 hcB (by omega) (by omega)
  have hnm : (⟨((name.data.toList ++ body).take name.size).toArray⟩ : ByteArray) = name := by
    have h : name.size = name.data.toList.length := by simp
    rw [h, List.take_left]
  rw [hek, hnm] at hum
  have hq3 := H2.out.2.2.2.2.2.after hb23 (Nat.le_refl _)
  have hg30 := H2.out.2.2.2.2.1.after hb23 (Nat.le_refl _)
  have H3 := Lib.hid (⟨hum, hbb3, hb23, hq3, hg30⟩ : _ ∧ _ ∧ _ ∧ _ ∧ _)
  clear hum hbb3 hb23 hq3 hg30 hrb3 hmb hbl2 hb3 hmb3 hek hnm
  go_wp2_with fail
  refine H3.out.1.mono ?_
  rintro e w4 ⟨rfl, hw4⟩
  obtain ⟨AN, hAN⟩ : ∃ AN, AN = cutA (some ⟨gb, 0, none⟩) cB (name.size + 1) := ⟨_, rfl⟩
  obtain ⟨MN, hMN⟩ : ∃ MN, MN = 1 + name.size + body.length - (name.size + 1) := ⟨_, rfl⟩
  obtain ⟨CN, hCN⟩ : ∃ CN, CN = cB - (name.size + 1) := ⟨_, rfl⟩
  rw [← hAN, ← hMN, ← hCN] at hw4
  have hc4 : Blk w4 (w.heap.size + 1) 77 #[.string name, .slice AN MN CN] := by
    rw [hw4]
    exact (H3.out.2.2.2.2.set_ 0 (.string name)).set_ 1 (.slice AN MN CN)
  have hr4 : Blk w4 w.heap.size 77 #[.string ⟨#[]⟩, .slice none 0 0] := by
    rw [hw4]
    exact (H3.out.2.2.2.1.farN (by omega) _).farN (by omega) _
  have ha4 : Apart [w.heap.size + 1] w3 w4 := by
    rw [hw4]
    exact ((Apart.refl _ _).setN (.inl (by simp)) _).setN (.inl (by simp)) _
  have HN := Lib.hid (⟨hAN, hMN, hCN, hw4⟩ : _ ∧ _ ∧ _ ∧ _)
  clear hAN hMN hCN hw4
  have z0 := hc4.cell 0
  have z1 := hc4.cell 1
  have y0 := hr4.cell 0
  have y1 := hr4.cell 1
  have f0 := hr4.frozen 0
  have f1 := hr4.frozen 1
  simp only [List.getElem?_toArray, List.getElem?_cons_zero, List.getElem?_cons_succ] at z0 z1 y0 y1
  have H4 := Lib.hid (⟨hc4, hr4, ha4⟩ : _ ∧ _ ∧ _)
  clear hc4 hr4 ha4 x0 hg3
  go_wp2_with fail
  have hV := (H4.out.2.1.set_ 0 (.string name)).set_ 1 (.slice AN MN CN)
  have k0 := hV.cell 0
  have k1 := hV.cell 1
  have hsz1 : w.heap.size + 4 ≤ gb := by have := hgb; omega
  have hAV : Apart [w.heap.size, w.heap.size + 1] w3 ((w4.setCell ⟨w.heap.size, 0, none⟩ (.string name)).setCell ⟨w.heap.size, 1, none⟩ (.slice AN MN CN)) :=
    ((H4.out.2.2.mono (fun k _ hk => by simp at hk; simp [hk])).setN (.inl (by simp)) _).setN (.inl (by simp)) _
  have hF : CmdGot p sc cn m1 B K pm m2 ps sa sb n rest OA on oc outb name body w (.returned (.tuple #[.agg #[.string name, .slice AN MN CN], .nilIface])) ((w4.setCell ⟨w.heap.size, 0, none⟩ (.string name)).setCell ⟨w.heap.size, 1, none⟩ (.slice AN MN CN)) := by
    obtain ⟨hAN, hMN, hCN, _⟩ := HN.out
    have hC3 := H2.out.2.2.1.below_ H3.out.2.2.1
    have hk3 : Keep B [] w3 ((w4.setCell ⟨w.heap.size, 0, none⟩ (.string name)).setCell ⟨w.heap.size, 1, none⟩ (.slice AN MN CN)) := Keep.of_apart hAV (fun k hk => by simp at hk; exact .inr (by omega)) hC3.ord.2.2.2.2
    have hsV := hAV.size
    have hmn : MN = body.length := by omega
    rw [hAN, hmn, hCN]
    rw [hAN, hmn, hCN] at hAV hk3 hsV
    refine ⟨gb, cB, IA', c', rfl, H3.out.2.1.apart hAV (by simp; omega), by omega, hcB, ?_, ?_, ?_⟩
    · refine hC3.next hk3 (fun k hk => by cases hk) (hAV.blk hC3.pipe (by simp; omega)) (fun x => x) ⟨hC3.nc.1, Nat.le_refl _⟩ (hAV.ob hC3.out (fun ad e => ?_))
      have := (HC.out.1.out.block e).2
      simp
      omega
    · exact ((Keep.of_below H0.out.1 (by omega)).trans H2.out.2.2.2.1).trans ((Keep.of_below H3.out.2.2.1 (by have := H2.out.2.2.1.ord; omega)).trans (hk3.more (fun k hk => by cases hk)))
    · exact (((Apart.of_below H0.out.1).trans HA2.out).then_below H3.out.2.2.1).via hAV (fun i hi hm => by simp at hm; omega)
  simp only [Array.setIfInBounds] at k0 k1
  exact bodyPost_ret (v := .tuple #[.agg #[.string name, .slice AN MN CN], .nilIface]) (by simp [results, Tryz.results133, go_sem, k0, k1]) rfl hF
end Go.Proofs.YtkpcepdalegmmaaGreatDoor

/-! Greetings: ZZGreeting, impl.FormatGreeting. -/
namespace Go.Proofs.YtkpcepdalegmmaaGreatDoor
open Go.RowKit

/-- An operation whose run is known. -/
theorem wpl_val {w : World} {o : Oper} {a : Act} {ops : Array Oper} {rest : List Oper} {Q : Exit → Act → World → Prop} (hgd : o.guard = none) (v : Value) (hr : (execOp a.eval o).run Tryz.prog w = .ok (.value v) w)
    (h : wpList Tryz.prog ops Q rest (a.put o.dst v) w) : wpList Tryz.prog ops Q (o :: rest) a w := by
  refine wpList_plain hgd fun K hK => ?_
  unfold Oper.wp
  rw [hr]
  exact hK _ _ h

def g0 (a b : UInt8) : List UInt8 := List.replicate 10 0 ++ (a :: b :: List.replicate 52 0)
theorem info_greeting : (Tryz.prog.info? 86).map (fun i => (i.zero, i.size)) = some (some (.agg (bv z64).toArray), 64) := by kernel_rfl
theorem build_greeting (a b : UInt8) (w : World) : (Instr.build 86 #[(1, .agg #[.int .u8 (a.toNat : Int), .int .u8 (b.toNat : Int)])]).run Tryz.prog w = .ok (.agg (bv (g0 a b)).toArray) w := by kernel_rfl
theorem g0_length (a b : UInt8) : (g0 a b).length = z64.length := rfl
theorem g0_set (a b : UInt8) : ((g0 a b).set 0 255).set 9 127 = preB a b ++ List.replicate 52 0 := rfl

set_option maxRecDepth 100000 in
theorem ZZGreeting (major minor : UInt8) (mech : ByteArray) (server : Bool) (w : World) (hm : mech.size ≤ 20) :
    Calls Tryz.prog 19 #[.int .u8 major.toNat, .int .u8 minor.toNat, .string mech, .bool server] w fun e w' =>
      ∃ b, e = .returned (.tuple #[.slice (some ⟨b, 0, none⟩) 64 64, .nilIface]) ∧ w.heap.size ≤ b ∧ BB w' b 115 (greetM major minor (padTo mech.data.toList) (boolB server)) ∧ Below w.heap.size w w' := by
  have hml : mech.data.toList.length ≤ 20 := by simpa using hm
  go_enter Tryz.func19, Tryz.ntmps19
  go_wp2_with (first
    | (with_reducible refine wpl_val (o := ⟨some 14, _, _, _, _, _⟩) rfl (.agg (bv (g0 major minor)).toArray) ?_ ?_
       · simp only [execOp, List.map_toArray, List.map_cons, List.map_nil, Act.eval]
         simp [build_greeting]
       skip)
    | (with_reducible refine wpl_allocB (o := ⟨some 10, _, _, _, _, _⟩) rfl _ rfl z64 64 info_greeting ?_
       intro w1 hb1 hbl1 hs1
       refine wpl_storeB (o := ⟨none, .store 86 (.tmp 10) (.tmp 14), _, _, _, _⟩) rfl _ _ _ rfl w.heap.size z64 (g0 major minor) ?_ ?_ hb1 (g0_length _ _) ?_ ?_
       · rfl
       · rfl
       · exact (zero_of_info info_greeting).2
       intro w2 hb2 ha2 hs2
       have hbl2 : Below w.heap.size w w2 := hbl1.trans (ha2.below hbl1.size (by simp))
       have c0 := hb2.cell (i := 0) (by rw [g0_length]; decide)
       have c9 := hb2.cell (i := 9) (by rw [g0_length]; decide)
       have f0 := hb2.frozen 0
       have f9 := hb2.frozen 9
       have f32 := hb2.frozen 32
       have hb3 := (hb2.set 0 255).set 9 127
       rw [g0_set] at hb3
       clear hs2 hs1)
    | (with_reducible refine wpl_copyB (o := ⟨some 26, _, _, _, _, _⟩) rfl (.tmp 24) (.tmp 25) 9 rfl w.heap.size 12 20 20 86 (.string mech) mech.size (preB major minor ++ List.replicate 52 0) mech.data.toList mech.size ?_ ?_ ?_ (lenOf_string mech) ?_ (first_string mech _) ?_ ?_ ?_
       · rfl
       · rfl
       · exact hb3
       · exact Nat.min_eq_left hm
       · simp
       · simp only [List.length_append, List.length_replicate]
         show 12 + mech.size ≤ 12 + 52
         omega
       intro w3 hb4 ha4 hs4
       rw [pre_splice _ _ _ hml] at hb4
       have hbl4 : Below w.heap.size w w3 := (below_setN (o := 9) (below_setN (o := 0) hbl2 (Nat.le_refl _) (.int .u8 255)) (Nat.le_refl _) (.int .u8 127)).trans (ha4.below (by simpa using hbl2.size) (by simp))
       have c32 := hb4.cell (i := 32) (by rw [greetM_length (padTo_length hml)]; decide)
       have f32' := hb4.frozen 32
       clear hs4)
    | fail)
  · have hs : server = true := by assumption
    subst hs
    have hb5 := hb4.set 32 1
    rw [greetM_set (padTo_length hml)] at hb5
    refine (marshal w.heap.size _ (greetM_length (padTo_length hml)) _ hb5).mono ?_
    rintro e w' ⟨b, rfl, hbb, hbm, hbl⟩
    rw [marshal_greet (padTo_length hml)] at hbm
    have hbl5 := below_setN (o := 32) hbl4 (Nat.le_refl _) (.int .u8 1)
    have hz := hbl5.size
    clear c0 c9 f0 f9 f32 c32 f32'
    go_wp2_with fail
    go_ret2
    exact ⟨b, rfl, Nat.le_trans hz hbb, hbm, below_seq hbl5 hbl hz⟩
  · have hs : server = false := by assumption
    subst hs
    refine (marshal w.heap.size _ (greetM_length (padTo_length hml)) _ hb4).mono ?_
    rintro e w' ⟨b, rfl, hbb, hbm, hbl⟩
    rw [marshal_greet (padTo_length hml)] at hbm
    have hz := hbl4.size
    clear c0 c9 f0 f9 f32 c32 f32'
    go_wp2_with fail
    go_ret2
    exact ⟨b, rfl, Nat.le_trans hz hbb, hbm, below_seq hbl4 hbl hz⟩
end Go.Proofs.YtkpcepdalegmmaaGreatDoor
