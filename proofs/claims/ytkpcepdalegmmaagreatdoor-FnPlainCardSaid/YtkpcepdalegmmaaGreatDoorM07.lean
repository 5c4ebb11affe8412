/- Parts of a proof, laid behind one another: Frames: ZZNull, ZZConn, SetClosed, checkIO. PLAIN: a connection with the plain security. beUint32, beUint64. -/
import Derived.Test.YtkpcepdalegmmaaGreatDoorM05
import Derived.Test.YtkpcepdalegmmaaGreatDoorM06
import Derived.Test.YtkpcepdalegmmaaGreatDoorM03
import Derived.Test.YtkpcepdalegmmaaGreatDoorM02
import Derived.Deep.QuietTactic
import Derived.Laws.Bits64b
import Derived.BigQuiet
/-! Frames: ZZNull, ZZConn, SetClosed, checkIO. -/
namespace Go.Proofs.YtkpcepdalegmmaaGreatDoor
open Go.RowKit

theorem ZZNull (w : World) : Calls Tryz.prog 27 #[] w fun e w' => e = .returned (.iface 107 (.agg #[])) ∧ w' = w := by
  go_enter Tryz.func27, Tryz.ntmps27
  go_wp2_with fail
  go_ret
  exact ⟨rfl, rfl⟩

/-- A connection over the pipe at p, without security. -/
def connCells (p : Nat) (m1 m2 : Value) (cl : Bool) : Array Value :=
  #[.string ⟨#[]⟩, .slice none 0 0, .iface 34 (.pointer (some ⟨p, 0, none⟩)), .iface 107 (.agg #[]), .bool false, m1, .bool false, .map none, m2, .bool cl, .nilFunc]
def IsConn (w : World) (cn p : Nat) : Prop := ∃ m1 m2 cl, Blk w cn 65 (connCells p m1 m2 cl)
section
variable {w w' : World} {cn p : Nat}
theorem IsConn.lt (h : IsConn w cn p) : cn < w.heap.size := by obtain ⟨_, _, _, h⟩ := h; exact h.lt
theorem IsConn.rw_ (h : IsConn w cn p) : w.cell? ⟨cn, 2, none⟩ = some (.iface 34 (.pointer (some ⟨p, 0, none⟩))) := by obtain ⟨_, _, _, h⟩ := h; exact h.cell 2
theorem IsConn.sec (h : IsConn w cn p) : w.cell? ⟨cn, 3, none⟩ = some (.iface 107 (.agg #[])) := by obtain ⟨_, _, _, h⟩ := h; exact h.cell 3
theorem IsConn.apart {ps : List Nat} (h : IsConn w cn p) (ha : Apart ps w w') (hn : cn ∉ ps) : IsConn w' cn p := by obtain ⟨a, b, c, h⟩ := h; exact ⟨a, b, c, ha.blk h hn⟩
theorem IsConn.after {B : Nat} (h : IsConn w cn p) (hb : Below B w w') (hB : w.heap.size ≤ B) : IsConn w' cn p := by obtain ⟨a, b, c, h⟩ := h; exact ⟨a, b, c, h.after hb hB⟩
theorem IsConn.farN (h : IsConn w cn p) {b o : Nat} (hp : cn ≠ b) (u : Value) : IsConn (w.setCell ⟨b, o, none⟩ u) cn p := by obtain ⟨x, y, c, h⟩ := h; exact ⟨x, y, c, h.farN hp u⟩
theorem IsConn.alloc (h : IsConn w cn p) (o : Obj) : IsConn (w.alloc o) cn p := by obtain ⟨a, b, c, h⟩ := h; exact ⟨a, b, c, h.alloc o⟩
theorem IsConn.grown {row : Option Nat} (h : IsConn w cn p) (hb : w.grownBy w' row) (hg : some cn ≠ row) : IsConn w' cn p := by obtain ⟨a, b, c, h⟩ := h; exact ⟨a, b, c, h.grown hb hg⟩
theorem IsConn.drew (h : IsConn w cn p) : IsConn w.drew cn p := h
end

set_option maxRecDepth 100000 in
theorem ZZConn (p : Nat) (w : World) : Calls Tryz.prog 26 #[.pointer (some ⟨p, 0, none⟩), .iface 107 (.agg #[])] w fun e w' => ∃ cn, e = .returned (.pointer (some ⟨cn, 0, none⟩)) ∧ w.heap.size ≤ cn ∧ IsConn w' cn p ∧ Below w.heap.size w w' := by
  have hmm : ∀ t W, (Instr.makeMap t none).run Tryz.prog W = .ok (.map (some W.heap.size)) (W.alloc (.map #[] 0)) := fun _ _ => rfl
  go_enter Tryz.func26, Tryz.ntmps26
  go_wp2_with fail
  go_ret
  refine ⟨w.heap.size + 1 + 1, rfl, by omega, ?_, ?_⟩
  · have hb := Blk.new ((w.alloc (.map #[] 0)).alloc (.map #[] 0)) 65 (connCells p (.map (some w.heap.size)) (.map (some (w.heap.size + 1))) false)
    rw [World.size_alloc, World.size_alloc] at hb
    exact ⟨_, _, _, hb⟩
  · exact (((Below.refl _ _).alloc (Nat.le_refl _) _).alloc (by simp) _).alloc (by simp; omega) _

set_option maxRecDepth 100000 in
theorem notify (cn p : Nat) (w : World) (h : IsConn w cn p) : Calls Tryz.prog 98 #[.pointer (some ⟨cn, 0, none⟩)] w fun e w' => e = .returned (.tuple #[]) ∧ w' = w := by
  obtain ⟨m1, m2, cl, h⟩ := h
  have c9 : w.cell? ⟨cn, 10, none⟩ = some .nilFunc := h.cell 10
  have en : ∀ W, (binOp .eql 60 .nilFunc .nilFunc).run Tryz.prog W = .ok (.bool true) W := fun W => by kernel_rfl
  go_enter Tryz.func98, Tryz.ntmps98
  go_wp2_with fail
  refine bodyPost_ret (results_none rfl _ _ _) rfl ?_
  exact ⟨rfl, rfl⟩

set_option maxRecDepth 100000 in
theorem SetClosed (cn p : Nat) (w : World) (h : IsConn w cn p) : Calls Tryz.prog 76 #[.pointer (some ⟨cn, 0, none⟩)] w fun e w' => e = .returned (.tuple #[]) ∧ IsConn w' cn p ∧ Apart [cn] w w' := by
  have h0 := Lib.hid h
  obtain ⟨m1, m2, cl, h⟩ := h
  have c9 : w.cell? ⟨cn, 9, none⟩ = some (.bool cl) := h.cell 9
  have f9 := h.frozen 9
  cases cl
  · have h2 : IsConn (w.setCell ⟨cn, 9, none⟩ (.bool true)) cn p := ⟨m1, m2, true, h.set_ 9 (.bool true)⟩
    have ha : Apart [cn] w (w.setCell ⟨cn, 9, none⟩ (.bool true)) := (Apart.refl _ _).setN (.inl (by simp)) _
    go_enter Tryz.func76, Tryz.ntmps76
    go_wp2_with fail
    refine (notify cn p _ h2).mono ?_
    rintro e w' ⟨rfl, rfl⟩
    go_wp2_with fail
    refine bodyPost_end (results_none rfl _ _ _) rfl ?_
    exact ⟨rfl, h2, ha⟩
  · go_enter Tryz.func76, Tryz.ntmps76
    go_wp2_with fail
    refine bodyPost_end (results_none rfl _ _ _) rfl ?_
    exact ⟨rfl, h0.out, Apart.refl _ _⟩

theorem end_nil (W : World) : (binOp .eql 31 (.iface 87 (.string ⟨#[117, 110, 101, 120, 112, 101, 99, 116, 101, 100, 32, 69, 79, 70]⟩)) .nilIface).run Tryz.prog W = .ok (.bool false) W := by kernel_rfl
theorem end_eof (W : World) : (binOp .eql 31 (.iface 87 (.string ⟨#[117, 110, 101, 120, 112, 101, 99, 116, 101, 100, 32, 69, 79, 70]⟩)) (.iface 87 (.string ⟨#[69, 79, 70]⟩))).run Tryz.prog W = .ok (.bool false) W := by kernel_rfl

set_option maxRecDepth 100000 in
theorem checkIO (cn p : Nat) (s : ByteArray) (w : World) (hs : s = eofS ∨ s = endS) (h : IsConn w cn p) : Calls Tryz.prog 55 #[.pointer (some ⟨cn, 0, none⟩), .iface 87 (.string s)] w fun e w' => e = .returned (.tuple #[]) ∧ IsConn w' cn p ∧ Apart [cn] w w' := by
  have h0 := Lib.hid h
  rcases hs with rfl | rfl
  · have e1 := eof_nil
    have e2 := eof_eof
    rw [show eofS = ⟨#[69, 79, 70]⟩ from rfl]
    go_enter Tryz.func55, Tryz.ntmps55
    go_wp2_with fail
    refine (SetClosed cn p _ h).mono ?_
    rintro e w' ⟨rfl, h2, ha⟩
    go_wp2_with fail
    refine bodyPost_end (results_none rfl _ _ _) rfl ?_
    exact ⟨rfl, h2, ha⟩
  · have e1 := end_nil
    have e2 := end_eof
    rw [show endS = ⟨#[117, 110, 101, 120, 112, 101, 99, 116, 101, 100, 32, 69, 79, 70]⟩ from rfl]
    go_enter Tryz.func55, Tryz.ntmps55
    go_wp2_with fail
    refine bodyPost_end (results_none rfl _ _ _) rfl ?_
    exact ⟨rfl, h0.out, Apart.refl _ _⟩

theorem readFull_few (g d off : Nat) (T : TypeId) (IA : Option Addr) (n c m cap : Nat) (out : Value) (l inb : List UInt8) (w : World) (hg : Blk w g 36 #[.slice IA n c, out]) (hd : BB w d T l)
    (hr : RB w w.heap.size IA n inb) (hnm : n < m) (hm : m ≤ 1099511627776) (hfit : off + m ≤ l.length) (hgd : g ≠ d) :
    Calls Tryz.prog 59 #[.iface 34 (.pointer (some ⟨g, 0, none⟩)), .slice (some ⟨d, off, none⟩) m cap] w fun e w' => (∃ s, (s = eofS ∨ s = endS) ∧ e = .returned (.tuple #[.int .i64 n, .iface 87 (.string s)])) ∧ Apart [d, g] w w' := by
  by_cases h0 : n = 0
  · subst h0
    refine (readFull_eof g (some ⟨d, off, none⟩) IA c m cap out w hg (by omega) hm).mono ?_
    rintro e w' ⟨rfl, ha, _⟩
    exact ⟨⟨_, .inl rfl, rfl⟩, ha.mono (fun k _ hk => by cases hk)⟩
  · refine (readFull_short g d off T IA n c m cap out l inb w hg hd hr (by omega) hnm hm hfit hgd).mono ?_
    rintro e w' ⟨rfl, _, _, ha, _⟩
    exact ⟨⟨_, .inr rfl, rfl⟩, ha⟩

/-- A frame's first byte. -/
def flagV (lg c m : Bool) : UInt8 := if lg then longU c m else flagU c m
theorem hasMore (lg c m : Bool) (w : World) : Calls Tryz.prog 60 #[.int .u8 (flagV lg c m).toNat] w fun e w' => e = .returned (.bool m) ∧ w = w' := by
  cases lg <;> cases c <;> cases m <;>
  · go_enter Tryz.func60, Tryz.ntmps60
    go_wp2_with fail
    go_ret
    exact ⟨rfl, rfl⟩
theorem isCommand (lg c m : Bool) (w : World) : Calls Tryz.prog 61 #[.int .u8 (flagV lg c m).toNat] w fun e w' => e = .returned (.bool c) ∧ w = w' := by
  cases lg <;> cases c <;> cases m <;>
  · go_enter Tryz.func61, Tryz.ntmps61
    go_wp2_with fail
    go_ret
    exact ⟨rfl, rfl⟩
theorem isLong (lg c m : Bool) (w : World) : Calls Tryz.prog 62 #[.int .u8 (flagV lg c m).toNat] w fun e w' => e = .returned (.bool lg) ∧ w = w' := by
  cases lg <;> cases c <;> cases m <;>
  · go_enter Tryz.func62, Tryz.ntmps62
    go_wp2_with fail
    go_ret
    exact ⟨rfl, rfl⟩
end Go.Proofs.YtkpcepdalegmmaaGreatDoor

/-! PLAIN: a connection with the plain security. -/
namespace Go.Proofs.YtkpcepdalegmmaaGreatDoor
open Go.RowKit

theorem load_plain (sc : Nat) (a b : Value) (w : World) (h : Blk w sc 70 #[a, b]) : (loadVar 70 ⟨sc, 0, none⟩).run Tryz.prog w = .ok (.agg #[a, b]) w := by
  have c0 := h.cell 0
  have c1 := h.cell 1
  simp only [List.getElem?_toArray, List.getElem?_cons_zero, List.getElem?_cons_succ] at c0 c1
  go_simp
theorem recv_Type (sc : Nat) (w : World) : (receiverAt 68 (.val (.pointer (some ⟨sc, 0, none⟩))) false (some "Type")).run Tryz.prog w = (loadVar 70 ⟨sc, 0, none⟩).run Tryz.prog w := by kernel_rfl
theorem recv_Encrypt (sc : Nat) (w : World) : (receiverAt 68 (.val (.pointer (some ⟨sc, 0, none⟩))) false (some "Encrypt")).run Tryz.prog w = (loadVar 70 ⟨sc, 0, none⟩).run Tryz.prog w := by kernel_rfl
theorem recv_Decrypt (sc : Nat) (w : World) : (receiverAt 68 (.val (.pointer (some ⟨sc, 0, none⟩))) false (some "Decrypt")).run Tryz.prog w = (loadVar 70 ⟨sc, 0, none⟩).run Tryz.prog w := by kernel_rfl
theorem plain_Type (sc : Nat) (a b : Value) (w : World) (h : Blk w sc 70 #[a, b]) : (method 318 68 (.pointer (some ⟨sc, 0, none⟩)) "Type").run Tryz.prog w = .ok (132, .agg #[a, b]) w := by
  have e : (method 318 68 (.pointer (some ⟨sc, 0, none⟩)) "Type").run Tryz.prog w = ((receiverAt 68 (.val (.pointer (some ⟨sc, 0, none⟩))) false (some "Type")) >>= fun r => pure (132, r)).run Tryz.prog w := by kernel_rfl
  rw [e, Sem.run_bind, recv_Type, load_plain sc a b w h]
  rfl
theorem plain_Encrypt (sc : Nat) (a b : Value) (w : World) (h : Blk w sc 70 #[a, b]) : (method 318 68 (.pointer (some ⟨sc, 0, none⟩)) "Encrypt").run Tryz.prog w = .ok (130, .agg #[a, b]) w := by
  have e : (method 318 68 (.pointer (some ⟨sc, 0, none⟩)) "Encrypt").run Tryz.prog w = ((receiverAt 68 (.val (.pointer (some ⟨sc, 0, none⟩))) false (some "Encrypt")) >>= fun r => pure (130, r)).run Tryz.prog w := by kernel_rfl
  rw [e, Sem.run_bind, recv_Encrypt, load_plain sc a b w h]
  rfl
theorem plain_Decrypt (sc : Nat) (a b : Value) (w : World) (h : Blk w sc 70 #[a, b]) : (method 318 68 (.pointer (some ⟨sc, 0, none⟩)) "Decrypt").run Tryz.prog w = .ok (129, .agg #[a, b]) w := by
  have e : (method 318 68 (.pointer (some ⟨sc, 0, none⟩)) "Decrypt").run Tryz.prog w = ((receiverAt 68 (.val (.pointer (some ⟨sc, 0, none⟩))) false (some "Decrypt")) >>= fun r => pure (129, r)).run Tryz.prog w := by kernel_rfl
  rw [e, Sem.run_bind, recv_Decrypt, load_plain sc a b w h]
  rfl
theorem plain_Handshake (sc : Nat) (w : World) : (method 318 68 (.pointer (some ⟨sc, 0, none⟩)) "Handshake").run Tryz.prog w = .ok (131, .pointer (some ⟨sc, 0, none⟩)) w := by kernel_rfl
theorem nil_PType (sc : Nat) (w : World) : (nilAhead 318 68 (.pointer (some ⟨sc, 0, none⟩)) "Type").run Tryz.prog w = .ok (some false) w := by kernel_rfl
theorem nil_PEncrypt (sc : Nat) (w : World) : (nilAhead 318 68 (.pointer (some ⟨sc, 0, none⟩)) "Encrypt").run Tryz.prog w = .ok (some false) w := by kernel_rfl
theorem nil_PDecrypt (sc : Nat) (w : World) : (nilAhead 318 68 (.pointer (some ⟨sc, 0, none⟩)) "Decrypt").run Tryz.prog w = .ok (some false) w := by kernel_rfl
theorem nil_PHandshake (sc : Nat) (w : World) : (nilAhead 318 68 (.pointer (some ⟨sc, 0, none⟩)) "Handshake").run Tryz.prog w = .ok (some false) w := by kernel_rfl

/-- A connection over the pipe at p with the plain security at sc; not closed. -/
def PConn (w : World) (cn p sc : Nat) (sa sb : Value) : Prop :=
  (∃ cs, Blk w cn 65 cs ∧ cs[2]? = some (.iface 34 (.pointer (some ⟨p, 0, none⟩))) ∧ cs[3]? = some (.iface 68 (.pointer (some ⟨sc, 0, none⟩))) ∧ cs[9]? = some (.bool false)) ∧ Blk w sc 70 #[sa, sb]
section
variable {w w' : World} {cn p sc : Nat} {sa sb : Value}
theorem PConn.lt (h : PConn w cn p sc sa sb) : cn < w.heap.size ∧ sc < w.heap.size := by obtain ⟨⟨_, h, _⟩, k⟩ := h; exact ⟨h.lt, k.lt⟩
theorem PConn.rw_ (h : PConn w cn p sc sa sb) : w.cell? ⟨cn, 2, none⟩ = some (.iface 34 (.pointer (some ⟨p, 0, none⟩))) := by obtain ⟨⟨_, h, e, _⟩, _⟩ := h; exact (h.cell 2).trans e
theorem PConn.sec (h : PConn w cn p sc sa sb) : w.cell? ⟨cn, 3, none⟩ = some (.iface 68 (.pointer (some ⟨sc, 0, none⟩))) := by obtain ⟨⟨_, h, _, e, _⟩, _⟩ := h; exact (h.cell 3).trans e
theorem PConn.open_ (h : PConn w cn p sc sa sb) : w.cell? ⟨cn, 9, none⟩ = some (.bool false) := by obtain ⟨⟨_, h, _, _, e⟩, _⟩ := h; exact (h.cell 9).trans e
theorem PConn.apart {ps : List Nat} (h : PConn w cn p sc sa sb) (ha : Apart ps w w') (hn : cn ∉ ps) (hs : sc ∉ ps) : PConn w' cn p sc sa sb := by obtain ⟨⟨a, h, r⟩, k⟩ := h; exact ⟨⟨a, ha.blk h hn, r⟩, ha.blk k hs⟩
theorem PConn.after {B : Nat} (h : PConn w cn p sc sa sb) (hb : Below B w w') (hB : w.heap.size ≤ B) : PConn w' cn p sc sa sb := by obtain ⟨⟨a, h, r⟩, k⟩ := h; exact ⟨⟨a, h.after hb hB, r⟩, k.after hb hB⟩
theorem PConn.farN (h : PConn w cn p sc sa sb) {b o : Nat} (hp : cn ≠ b) (hs : sc ≠ b) (u : Value) : PConn (w.setCell ⟨b, o, none⟩ u) cn p sc sa sb := by obtain ⟨⟨a, h, r⟩, k⟩ := h; exact ⟨⟨a, h.farN hp u, r⟩, k.farN hs u⟩
theorem PConn.alloc (h : PConn w cn p sc sa sb) (o : Obj) : PConn (w.alloc o) cn p sc sa sb := by obtain ⟨⟨a, h, r⟩, k⟩ := h; exact ⟨⟨a, h.alloc o, r⟩, k.alloc o⟩
theorem PConn.grown {row : Option Nat} (h : PConn w cn p sc sa sb) (hb : w.grownBy w' row) (hg : some cn ≠ row) (hs : some sc ≠ row) : PConn w' cn p sc sa sb := by obtain ⟨⟨a, h, r⟩, k⟩ := h; exact ⟨⟨a, h.grown hb hg, r⟩, k.grown hb hs⟩
theorem PConn.drew (h : PConn w cn p sc sa sb) : PConn w.drew cn p sc sa sb := h
end
theorem Closed (cn p sc : Nat) (sa sb : Value) (w : World) (h : PConn w cn p sc sa sb) : Calls Tryz.prog 128 #[.pointer (some ⟨cn, 0, none⟩)] w fun e w' => e = .returned (.bool false) ∧ w' = w := by
  have c9 := h.open_
  go_enter Tryz.func128, Tryz.ntmps128
  go_wp2_with fail
  go_ret
  exact ⟨rfl, rfl⟩
theorem PType (a b : Value) (w : World) : Calls Tryz.prog 132 #[.agg #[a, b]] w fun e w' => e = .returned (.string ⟨#[80, 76, 65, 73, 78]⟩) ∧ Below w.heap.size w w' := by
  go_enter Tryz.func132, Tryz.ntmps132
  go_wp2_with fail
  go_ret
  exact ⟨rfl, (Below.refl _ _).alloc (Nat.le_refl _) _⟩
end Go.Proofs.YtkpcepdalegmmaaGreatDoor

/-! beUint32, beUint64. -/
namespace Go.Proofs.YtkpcepdalegmmaaGreatDoor
open Go.RowKit

theorem bits_or_u32_nat (a b : Nat) (ha : a < 4294967296) (hb : b < 4294967296) : bits .or .u32 (a : Int) (b : Int) = ((a ||| b : Nat) : Int) := by
  have hx : a ||| b < 2 ^ 32 := Nat.or_lt_two_pow (by omega) (by omega)
  have h1 : (BitVec.ofInt 32 (a : Int)).toNat = a := by
    rw [BitVec.ofInt_natCast, BitVec.toNat_ofNat]; exact Nat.mod_eq_of_lt (by omega)
  have h2 : (BitVec.ofInt 32 (b : Int)).toNat = b := by
    rw [BitVec.ofInt_natCast, BitVec.toNat_ofNat]; exact Nat.mod_eq_of_lt (by omega)
  show IntKind.u32.wrap ((BitVec.ofInt 32 (a : Int) ||| BitVec.ofInt 32 (b : Int)).toNat : Int) = _
  rw [BitVec.toNat_or, h1, h2]
  simp [IntKind.wrap, IntKind.bits, IntKind.signed]
  omega
/-- An 'or' of what shares no bit is a sum. -/
theorem or_u32_add (k x y : Nat) (hx : x < 2 ^ k) (hk : k ≤ 32) (hy : y * 2 ^ k < 4294967296) : bits .or .u32 (x : Int) ((y * 2 ^ k : Nat) : Int) = ((x + y * 2 ^ k : Nat) : Int) := by
  have hp : 2 ^ k ≤ 2 ^ 32 := Nat.pow_le_pow_right (by decide) hk
  rw [bits_or_u32_nat x (y * 2 ^ k) (by omega) hy, Nat.or_comm, Nat.mul_comm y, ← Nat.two_pow_add_eq_or_of_lt hx, Nat.add_comm]
theorem be32_sum (a b d e : UInt8) : bits .or .u32 (bits .or .u32 (bits .or .u32 (e.toNat : Int) ((d.toNat : Int) * 256)) ((b.toNat : Int) * 65536)) ((a.toNat : Int) * 16777216) = ((a.toNat * 16777216 + b.toNat * 65536 + d.toNat * 256 + e.toNat : Nat) : Int) := by
  have la := a.toNat_lt
  have lb := b.toNat_lt
  have ld := d.toNat_lt
  have le := e.toNat_lt
  have h1 := or_u32_add 8 e.toNat d.toNat (by omega) (by decide) (by omega)
  have h2 := or_u32_add 16 (e.toNat + d.toNat * 2 ^ 8) b.toNat (by omega) (by decide) (by omega)
  have h3 := or_u32_add 24 (e.toNat + d.toNat * 2 ^ 8 + b.toNat * 2 ^ 16) a.toNat (by omega) (by decide) (by omega)
  rw [Int.natCast_mul] at h1 h2 h3
  have e1 : (d.toNat : Int) * 256 = (d.toNat : Int) * ((2 ^ 8 : Nat) : Int) := rfl
  have e2 : (b.toNat : Int) * 65536 = (b.toNat : Int) * ((2 ^ 16 : Nat) : Int) := rfl
  have e3 : (a.toNat : Int) * 16777216 = (a.toNat : Int) * ((2 ^ 24 : Nat) : Int) := rfl
  rw [e1, h1, e2, h2, e3, h3]
  omega

set_option maxRecDepth 100000 in
theorem beUint32 (g off n c : Nat) (T : TypeId) (L : List UInt8) (w : World) (hg : BB w g T L) (hn : 4 ≤ n) (hn2 : n ≤ 1099511627776) (hfit : off + 4 ≤ L.length) (a b d e : UInt8) (ha : L.getD off 0 = a) (hb : L.getD (off + 1) 0 = b) (hd : L.getD (off + 2) 0 = d) (he : L.getD (off + 3) 0 = e) :
    Calls Tryz.prog 80 #[.slice (some ⟨g, off, none⟩) n c] w fun ed w' => ed = .returned (.int .u32 ((a.toNat * 16777216 + b.toNat * 65536 + d.toNat * 256 + e.toNat : Nat) : Int)) ∧ ∃ k, w' = w.drewN k := by
  have ca := hg.cell (i := off) (by omega)
  have cb := hg.cell (i := off + 1) (by omega)
  have cd := hg.cell (i := off + 2) (by omega)
  have ce := hg.cell (i := off + 3) (by omega)
  rw [ha] at ca
  rw [hb] at cb
  rw [hd] at cd
  rw [he] at ce
  clear ha hb hd he
  have la := a.toNat_lt
  have lb := b.toNat_lt
  have ld := d.toNat_lt
  have le := e.toNat_lt
  go_enter Tryz.func80, Tryz.ntmps80
  go_wp2_with fail
  go_quiet (fail)
  rename_i aK
  refine aK _ _ ?_
  go_wp2_with fail
  go_ret
  exact ⟨congrArg (fun v => Ending.returned (.int .u32 v)) (be32_sum a b d e), _, rfl⟩

set_option maxRecDepth 100000 in
theorem beUint64 (g c k : Nat) (T : TypeId) (w : World) (hk : k ≤ 1000) (hg : BB w g T (be8 k)) (hc : 8 ≤ c) :
    Calls Tryz.prog 63 #[.slice (some ⟨g, 0, none⟩) 8 c] w fun ed w' => ed = .returned (.int .u64 (k : Int)) ∧ Apart [] w w' ∧ w'.heap.size = w.heap.size := by
  have hs : ∀ W, (Instr.slice 23 (.slice (some ⟨g, 0, none⟩) 8 c) (some (.int .i64 4)) none none).run Tryz.prog W = .ok (.slice (cutA (some ⟨g, 0, none⟩) c 4) 4 (c - 4)) W := fun W => run_slice_lo (some ⟨g, 0, none⟩) 8 c W 4 (by decide)
  have hA : cutA (some ⟨g, 0, none⟩) c 4 = some ⟨g, 4, none⟩ := by
    unfold cutA
    rw [if_neg (by omega)]
    rfl
  have c7 := hg.cell (i := 7) (by simp [be8])
  have hlo : (UInt8.ofNat k).toNat = k % 256 := by simp
  have hhi : (UInt8.ofNat (k / 256)).toNat = k / 256 := by generalize h : k / 256 = y; simp; omega
  have HL := Lib.hid hlo
  have HH := Lib.hid hhi
  clear hlo hhi
  rw [hA] at hs
  clear hA
  go_enter Tryz.func63, Tryz.ntmps63
  go_wp2_with fail
  refine Calls.mono (R := fun ed w' => ed = .returned (.int .u32 (k : Int)) ∧ ∃ j, w' = w.drewN j) ?_ ?_
  · refine (beUint32 g 4 4 (c - 4) T (be8 k) w hg (by decide) (by decide) (by simp [be8]) 0 0 (UInt8.ofNat (k / 256)) (UInt8.ofNat k) rfl rfl rfl rfl).mono ?_
    rintro e w' ⟨rfl, hw⟩
    refine ⟨?_, hw⟩
    have e1 : (0 : UInt8).toNat * 16777216 + (0 : UInt8).toNat * 65536 + (UInt8.ofNat (k / 256)).toNat * 256 + (UInt8.ofNat k).toNat = k := by
      rw [HL.out, HH.out]
      show 0 * 16777216 + 0 * 65536 + k / 256 * 256 + k % 256 = k
      omega
    rw [e1]
  rintro e w' ⟨rfl, j, rfl⟩
  go_wp2_with fail
  refine Calls.mono (R := fun ed w' => ed = .returned (.int .u32 0) ∧ ∃ i, w' = (w.drewN j).drewN i) ?_ ?_
  · refine (beUint32 g 0 8 c T (be8 k) (w.drewN j) hg (by decide) (by decide) (by simp [be8]) 0 0 0 0 rfl rfl rfl rfl).mono ?_
    rintro e w' ⟨rfl, hw⟩
    exact ⟨rfl, hw⟩
  rintro e w' ⟨rfl, i, rfl⟩
  have hor : bits .or .u64 (k : Int) 0 = (k : Int) := by
    have := bits_or_u64_nat k 0 (by omega) (by decide)
    rw [Nat.or_zero] at this
    exact this
  go_wp2_with fail
  go_ret
  exact ⟨rfl, (Apart.refl _ _).drewN _, rfl⟩
end Go.Proofs.YtkpcepdalegmmaaGreatDoor
