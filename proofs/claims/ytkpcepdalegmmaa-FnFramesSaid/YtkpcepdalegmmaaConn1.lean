/- Frames: ZZNull, ZZConn, SetClosed, checkIO. -/
import Derived.Test.YtkpcepdalegmmaaGread
import Derived.Test.YtkpcepdalegmmaaFr4
namespace Go.Proofs.Ytkpcepdalegmmaa
open Go.RowKit

theorem ZZNull (w : World) : Calls Try.prog 42 #[] w fun e w' => e = .returned (.iface 113 (.agg #[])) ∧ w' = w := by
  go_enter Try.func42, Try.ntmps42
  go_wp2_with fail
  go_ret
  exact ⟨rfl, rfl⟩

/-- A connection over the pipe at p, without security. -/
def connCells (p : Nat) (m1 m2 : Value) (cl : Bool) : Array Value :=
  #[.string ⟨#[]⟩, .slice none 0 0, .iface 75 (.pointer (some ⟨p, 0, none⟩)), .iface 113 (.agg #[]), .bool false, m1, .bool false, .map none, m2, .bool cl, .nilFunc]
def IsConn (w : World) (cn p : Nat) : Prop := ∃ m1 m2 cl, Blk w cn 122 (connCells p m1 m2 cl)
section
variable {w w' : World} {cn p : Nat}
theorem IsConn.lt (h : IsConn w cn p) : cn < w.heap.size := by obtain ⟨_, _, _, h⟩ := h; exact h.lt
theorem IsConn.rw_ (h : IsConn w cn p) : w.cell? ⟨cn, 2, none⟩ = some (.iface 75 (.pointer (some ⟨p, 0, none⟩))) := by obtain ⟨_, _, _, h⟩ := h; exact h.cell 2
theorem IsConn.sec (h : IsConn w cn p) : w.cell? ⟨cn, 3, none⟩ = some (.iface 113 (.agg #[])) := by obtain ⟨_, _, _, h⟩ := h; exact h.cell 3
theorem IsConn.apart {ps : List Nat} (h : IsConn w cn p) (ha : Apart ps w w') (hn : cn ∉ ps) : IsConn w' cn p := by obtain ⟨a, b, c, h⟩ := h; exact ⟨a, b, c, ha.blk h hn⟩
theorem IsConn.after {B : Nat} (h : IsConn w cn p) (hb : Below B w w') (hB : w.heap.size ≤ B) : IsConn w' cn p := by obtain ⟨a, b, c, h⟩ := h; exact ⟨a, b, c, h.after hb hB⟩
theorem IsConn.farN (h : IsConn w cn p) {b o : Nat} (hp : cn ≠ b) (u : Value) : IsConn (w.setCell ⟨b, o, none⟩ u) cn p := by obtain ⟨x, y, c, h⟩ := h; exact ⟨x, y, c, h.farN hp u⟩
theorem IsConn.alloc (h : IsConn w cn p) (o : Obj) : IsConn (w.alloc o) cn p := by obtain ⟨a, b, c, h⟩ := h; exact ⟨a, b, c, h.alloc o⟩
theorem IsConn.grown {row : Option Nat} (h : IsConn w cn p) (hb : w.grownBy w' row) (hg : some cn ≠ row) : IsConn w' cn p := by obtain ⟨a, b, c, h⟩ := h; exact ⟨a, b, c, h.grown hb hg⟩
theorem IsConn.drew (h : IsConn w cn p) : IsConn w.drew cn p := h
end

set_option maxRecDepth 100000 in
theorem ZZConn (p : Nat) (w : World) : Calls Try.prog 41 #[.pointer (some ⟨p, 0, none⟩), .iface 113 (.agg #[])] w fun e w' => ∃ cn, e = .returned (.pointer (some ⟨cn, 0, none⟩)) ∧ w.heap.size ≤ cn ∧ IsConn w' cn p ∧ Below w.heap.size w w' := by
  have hmm : ∀ t W, (Instr.makeMap t none).run Try.prog W = .ok (.map (some W.heap.size)) (W.alloc (.map #[] 0)) := fun _ _ => rfl
  go_enter Try.func41, Try.ntmps41
  go_wp2_with fail
  go_ret
  refine ⟨w.heap.size + 1 + 1, rfl, by omega, ?_, ?_⟩
  · have hb := Blk.new ((w.alloc (.map #[] 0)).alloc (.map #[] 0)) 122 (connCells p (.map (some w.heap.size)) (.map (some (w.heap.size + 1))) false)
    rw [World.size_alloc, World.size_alloc] at hb
    exact ⟨_, _, _, hb⟩
  · exact (((Below.refl _ _).alloc (Nat.le_refl _) _).alloc (by simp) _).alloc (by simp; omega) _

set_option maxRecDepth 100000 in
theorem notify (cn p : Nat) (w : World) (h : IsConn w cn p) : Calls Try.prog 100 #[.pointer (some ⟨cn, 0, none⟩)] w fun e w' => e = .returned (.tuple #[]) ∧ w' = w := by
  obtain ⟨m1, m2, cl, h⟩ := h
  have c9 : w.cell? ⟨cn, 10, none⟩ = some .nilFunc := h.cell 10
  have en : ∀ W, (binOp .eql 120 .nilFunc .nilFunc).run Try.prog W = .ok (.bool true) W := fun W => by kernel_rfl
  go_enter Try.func100, Try.ntmps100
  go_wp2_with fail
  refine bodyPost_ret (results_none rfl _ _ _) rfl ?_
  exact ⟨rfl, rfl⟩

set_option maxRecDepth 100000 in
theorem SetClosed (cn p : Nat) (w : World) (h : IsConn w cn p) : Calls Try.prog 93 #[.pointer (some ⟨cn, 0, none⟩)] w fun e w' => e = .returned (.tuple #[]) ∧ IsConn w' cn p ∧ Apart [cn] w w' := by
  have h0 := Lib.hid h
  obtain ⟨m1, m2, cl, h⟩ := h
  have c9 : w.cell? ⟨cn, 9, none⟩ = some (.bool cl) := h.cell 9
  have f9 := h.frozen 9
  cases cl
  · have h2 : IsConn (w.setCell ⟨cn, 9, none⟩ (.bool true)) cn p := ⟨m1, m2, true, h.set_ 9 (.bool true)⟩
    have ha : Apart [cn] w (w.setCell ⟨cn, 9, none⟩ (.bool true)) := (Apart.refl _ _).setN (.inl (by simp)) _
    go_enter Try.func93, Try.ntmps93
    go_wp2_with fail
    refine (notify cn p _ h2).mono ?_
    rintro e w' ⟨rfl, rfl⟩
    go_wp2_with fail
    refine bodyPost_end (results_none rfl _ _ _) rfl ?_
    exact ⟨rfl, h2, ha⟩
  · go_enter Try.func93, Try.ntmps93
    go_wp2_with fail
    refine bodyPost_end (results_none rfl _ _ _) rfl ?_
    exact ⟨rfl, h0.out, Apart.refl _ _⟩

theorem end_nil (W : World) : (binOp .eql 58 (.iface 110 (.string ⟨#[117, 110, 101, 120, 112, 101, 99, 116, 101, 100, 32, 69, 79, 70]⟩)) .nilIface).run Try.prog W = .ok (.bool false) W := by kernel_rfl
theorem end_eof (W : World) : (binOp .eql 58 (.iface 110 (.string ⟨#[117, 110, 101, 120, 112, 101, 99, 116, 101, 100, 32, 69, 79, 70]⟩)) (.iface 110 (.string ⟨#[69, 79, 70]⟩))).run Try.prog W = .ok (.bool false) W := by kernel_rfl

set_option maxRecDepth 100000 in
theorem checkIO (cn p : Nat) (s : ByteArray) (w : World) (hs : s = eofS ∨ s = endS) (h : IsConn w cn p) : Calls Try.prog 74 #[.pointer (some ⟨cn, 0, none⟩), .iface 110 (.string s)] w fun e w' => e = .returned (.tuple #[]) ∧ IsConn w' cn p ∧ Apart [cn] w w' := by
  have h0 := Lib.hid h
  rcases hs with rfl | rfl
  · have e1 := eof_nil
    have e2 := eof_eof
    rw [show eofS = ⟨#[69, 79, 70]⟩ from rfl]
    go_enter Try.func74, Try.ntmps74
    go_wp2_with fail
    refine (SetClosed cn p _ h).mono ?_
    rintro e w' ⟨rfl, h2, ha⟩
    go_wp2_with fail
    refine bodyPost_end (results_none rfl _ _ _) rfl ?_
    exact ⟨rfl, h2, ha⟩
  · have e1 := end_nil
    have e2 := end_eof
    rw [show endS = ⟨#[117, 110, 101, 120, 112, 101, 99, 116, 101, 100, 32, 69, 79, 70]⟩ from rfl]
    go_enter Try.func74, Try.ntmps74
    go_wp2_with fail
    refine bodyPost_end (results_none rfl _ _ _) rfl ?_
    exact ⟨rfl, h0.out, Apart.refl _ _⟩

theorem readFull_few (g d off : Nat) (T : TypeId) (IA : Option Addr) (n c m cap : Nat) (out : Value) (l inb : List UInt8) (w : World) (hg : Blk w g 77 #[.slice IA n c, out]) (hd : BB w d T l)
    (hr : RB w w.heap.size IA n inb) (hnm : n < m) (hm : m ≤ 1099511627776) (hfit : off + m ≤ l.length) (hgd : g ≠ d) :
    Calls Try.prog 69 #[.iface 75 (.pointer (some ⟨g, 0, none⟩)), .slice (some ⟨d, off, none⟩) m cap] w fun e w' => (∃ s, (s = eofS ∨ s = endS) ∧ e = .returned (.tuple #[.int .i64 n, .iface 110 (.string s)])) ∧ Apart [d, g] w w' := by
  by_cases h0 : n = 0
  · subst h0
    refine (readFull_eof g (some ⟨d, off, none⟩) IA c m cap out w hg (by omega) hm).mono ?_
    rintro e w' ⟨rfl, ha, _⟩
    exact ⟨⟨_, .inl rfl, rfl⟩, ha.mono (fun k _ hk => by cases hk)⟩
  · refine (readFull_short g d off T IA n c m cap out l inb w hg hd hr (by omega) hnm hm hfit hgd).mono ?_
    rintro e w' ⟨rfl, _, _, ha, _⟩
    exact ⟨⟨_, .inr rfl, rfl⟩, ha⟩

/-- A frame's first byte. -/
def flagV (lg c m : Bool) : UInt8 := if lg then longU c m else flagU c m
theorem hasMore (lg c m : Bool) (w : World) : Calls Try.prog 75 #[.int .u8 (flagV lg c m).toNat] w fun e w' => e = .returned (.bool m) ∧ w = w' := by
  cases lg <;> cases c <;> cases m <;>
  · go_enter Try.func75, Try.ntmps75
    go_wp2_with fail
    go_ret
    exact ⟨rfl, rfl⟩
theorem isCommand (lg c m : Bool) (w : World) : Calls Try.prog 76 #[.int .u8 (flagV lg c m).toNat] w fun e w' => e = .returned (.bool c) ∧ w = w' := by
  cases lg <;> cases c <;> cases m <;>
  · go_enter Try.func76, Try.ntmps76
    go_wp2_with fail
    go_ret
    exact ⟨rfl, rfl⟩
theorem isLong (lg c m : Bool) (w : World) : Calls Try.prog 77 #[.int .u8 (flagV lg c m).toNat] w fun e w' => e = .returned (.bool lg) ∧ w = w' := by
  cases lg <;> cases c <;> cases m <;>
  · go_enter Try.func77, Try.ntmps77
    go_wp2_with fail
    go_ret
    exact ⟨rfl, rfl⟩
end Go.Proofs.Ytkpcepdalegmmaa
