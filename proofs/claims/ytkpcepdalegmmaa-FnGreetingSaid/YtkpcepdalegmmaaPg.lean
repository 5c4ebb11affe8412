/- Greetings: impl.ParseGreeting. -/
import Derived.Test.YtkpcepdalegmmaaZzp
import Derived.Test.YtkpcepdalegmmaaQuiet
import Derived.Test.YtkpcepdalegmmaaBytes3
namespace Go.Proofs.Ytkpcepdalegmmaa
open Go.RowKit

section
variable {w : World} {p : Nat} {t1 t2 t3 t4 t5 : TypeId} {x1 x2 x3 x4 x5 : Value}
/-- Five variables of one row, each laid anew. -/
def five (w : World) (p : Nat) (v1 v2 v3 v4 v5 : Value) : World :=
  ((((w.setCell ⟨p, 0, none⟩ v1).setCell ⟨p + 1, 0, none⟩ v2).setCell ⟨p + 1 + 1, 0, none⟩ v3).setCell ⟨p + 1 + 1 + 1, 0, none⟩ v4).setCell ⟨p + 1 + 1 + 1 + 1, 0, none⟩ v5
theorem five_1 (b : Blk w p t1 #[x1]) (v1 v2 v3 v4 v5 : Value) : Blk (five w p v1 v2 v3 v4 v5) p t1 #[v1] :=
  ((((b.setN v1).farN (by omega) v2).farN (by omega) v3).farN (by omega) v4).farN (by omega) v5
theorem five_2 (b : Blk w (p + 1) t1 #[x1]) (v1 v2 v3 v4 v5 : Value) : Blk (five w p v1 v2 v3 v4 v5) (p + 1) t1 #[v2] :=
  ((((b.farN (by omega) v1).setN v2).farN (by omega) v3).farN (by omega) v4).farN (by omega) v5
theorem five_3 (b : Blk w (p + 1 + 1) t1 #[x1]) (v1 v2 v3 v4 v5 : Value) : Blk (five w p v1 v2 v3 v4 v5) (p + 1 + 1) t1 #[v3] :=
  ((((b.farN (by omega) v1).farN (by omega) v2).setN v3).farN (by omega) v4).farN (by omega) v5
theorem five_4 (b : Blk w (p + 1 + 1 + 1) t1 #[x1]) (v1 v2 v3 v4 v5 : Value) : Blk (five w p v1 v2 v3 v4 v5) (p + 1 + 1 + 1) t1 #[v4] :=
  ((((b.farN (by omega) v1).farN (by omega) v2).farN (by omega) v3).setN v4).farN (by omega) v5
theorem five_5 (b : Blk w (p + 1 + 1 + 1 + 1) t1 #[x1]) (v1 v2 v3 v4 v5 : Value) : Blk (five w p v1 v2 v3 v4 v5) (p + 1 + 1 + 1 + 1) t1 #[v5] :=
  ((((b.farN (by omega) v1).farN (by omega) v2).farN (by omega) v3).farN (by omega) v4).setN v5
theorem five_far {g : Nat} (b : Blk w g t1 #[x1]) (hg : g < p ∨ p + 5 ≤ g) (v1 v2 v3 v4 v5 : Value) : Blk (five w p v1 v2 v3 v4 v5) g t1 #[x1] :=
  ((((b.farN (by omega) v1).farN (by omega) v2).farN (by omega) v3).farN (by omega) v4).farN (by omega) v5
theorem five_below {B : Nat} {a : World} (h : Below B a w) (hp : B ≤ p) (v1 v2 v3 v4 v5 : Value) : Below B a (five w p v1 v2 v3 v4 v5) :=
  below_setN (below_setN (below_setN (below_setN (below_setN h hp v1) (by omega) v2) (by omega) v3) (by omega) v4) (by omega) v5
end

theorem wrap_u8 (x : UInt8) : wrap64 (x.toNat : Int) = (x.toNat : Int) := by
  have := x.toNat_lt
  unfold wrap64
  omega

/-- What ZZParseGreeting answers to bytes. -/
def Answers (n : Nat) (l : List UInt8) (mj mi : UInt8) (ms : ByteArray) (sv ok : Bool) : Prop :=
  ∀ (A : Option Addr) (c : Nat) (w : World), RB w w.heap.size A n l → Calls Try.prog 36 #[.slice A n c] w fun e w' =>
    ∃ err, e = .returned (.tuple #[.int .u8 mj.toNat, .int .u8 mi.toNat, .string ms, .bool sv, err]) ∧ ((ok = true ∧ err = .nilIface) ∨ (ok = false ∧ ∃ s, err = .iface 110 (.string s))) ∧ Below w.heap.size w w'

set_option maxRecDepth 100000 in
theorem ParseGreeting_f (pd p : Nat) (A : Option Addr) (n c : Nat) (l : List UInt8) (mj mi : UInt8) (ms : ByteArray) (sv ok : Bool) (hz : Answers n l mj mi ms sv ok) (W : World) (hr : RB W W.heap.size A n l) (hn : n ≤ 2147483647)
    (b0 : Blk W pd 22 #[.slice A n c]) (b1 : Blk W p 3 #[.int .i64 0]) (b2 : Blk W (p + 1) 3 #[.int .i64 0]) (b3 : Blk W (p + 1 + 1) 9 #[.string ⟨#[]⟩]) (b4 : Blk W (p + 1 + 1 + 1) 4 #[.bool false]) (b5 : Blk W (p + 1 + 1 + 1 + 1) 4 #[.bool false]) :
    Calls Try.prog 35 #[.pointer (some ⟨pd, 0, none⟩), .pointer (some ⟨p, 0, none⟩), .pointer (some ⟨p + 1, 0, none⟩), .pointer (some ⟨p + 1 + 1, 0, none⟩), .pointer (some ⟨p + 1 + 1 + 1, 0, none⟩), .pointer (some ⟨p + 1 + 1 + 1 + 1, 0, none⟩)] W fun e w' =>
      e = .returned (.tuple #[]) ∧ ∃ V, w' = (five V p (.int .i64 mj.toNat) (.int .i64 mi.toNat) (.string ms) (.bool sv) (.bool ok)).drew ∧ Below W.heap.size W V := by
  have hd0 := (b0.alloc (.cells #[] 5)).cell0
  have l1 := b1.lt
  have l2 := b2.lt
  have l3 := b3.lt
  have l4 := b4.lt
  have l5 := b5.lt
  go_enter Try.func35, Try.ntmps35
  go_wp2_with (first
    | (at_builtin
       refine wpl_appB rfl (.tmp 12) (.tmp 13) 22 rfl W.heap.size _ 0 0 [] rfl (OB.lit0 W _ (Nat.le_refl _)) _ n l rfl (srcB (hr.new _)) n (Nat.zero_add n) (by omega) (by simp) ?_
       intro A3 c3 w3 ho3 hg3 ha3)
    | fail)
  have hb3 : Below W.heap.size W w3 := ((Below.refl _ _).alloc (Nat.le_refl _) _).grown hg3 (by simp) (fun k hk => by cases hk; exact Nat.le_refl _)
  refine (hz A3 c3 w3 (by simpa using ho3.rb)).mono ?_
  rintro e w4 ⟨err, rfl, herr, hb4⟩
  have hb := below_seq hb3 hb4 hb3.size
  have q1 := (b1.after hb (Nat.le_refl _)).cell0
  have q2 := (b2.after hb (Nat.le_refl _)).cell0
  have q3 := (b3.after hb (Nat.le_refl _)).cell0
  have q4 := (b4.after hb (Nat.le_refl _)).cell0
  have q5 := (b5.after hb (Nat.le_refl _)).cell0
  have f1 := (b1.after hb (Nat.le_refl _)).frozen 0
  have f2 := (b2.after hb (Nat.le_refl _)).frozen 0
  have f3 := (b3.after hb (Nat.le_refl _)).frozen 0
  have f4 := (b4.after hb (Nat.le_refl _)).frozen 0
  have f5 := (b5.after hb (Nat.le_refl _)).frozen 0
  clear hd0 hg3 ha3 ho3 hr b0 b1 b2 b3 b4 b5 hz
  rcases herr with ⟨rfl, rfl⟩ | ⟨rfl, s, rfl⟩
  · go_wp2_with fail
    go_region
    rw [wrap_u8, wrap_u8]
    refine bodyPost_end (results_none rfl _ _ _) rfl ⟨rfl, w4, rfl, hb⟩
  · go_wp2_with fail
    go_region
    rw [wrap_u8, wrap_u8]
    refine bodyPost_end (results_none rfl _ _ _) rfl ⟨rfl, w4, rfl, hb⟩

set_option maxRecDepth 100000 in
theorem ParseGreeting (A : Option Addr) (n c : Nat) (l : List UInt8) (mj mi : UInt8) (ms : ByteArray) (sv ok : Bool) (hz : Answers n l mj mi ms sv ok) (hno : ok = false → mj = 0 ∧ mi = 0 ∧ ms = ⟨#[]⟩ ∧ sv = false) (w : World) (hr : RB w w.heap.size A n l) (hn : n ≤ 2147483647) :
    Calls Try.prog 16 #[.slice A n c] w fun e w' => e = .returned (.tuple #[.int .i64 mj.toNat, .int .i64 mi.toNat, .string ms, .bool sv, .bool ok]) ∧ Below w.heap.size w w' := by
  have hmf : ∀ (fn : Fn) (first cap : Array Value) (w : World), (Instr.makeFunc fn first cap).run Try.prog w = .ok (.func fn first cap) w := fun _ _ _ _ => rfl
  go_enter Try.func16, Try.ntmps16
  go_wp2_with fail
  refine (quietly_any 35 _ _ (fun q w' => q = true ∧ ∃ V, w' = (five V (w.heap.size + 1) (.int .i64 mj.toNat) (.int .i64 mi.toNat) (.string ms) (.bool sv) (.bool ok)).drew ∧ Blk V (w.heap.size + 1) 3 #[.int .i64 0] ∧ Blk V (w.heap.size + 1 + 1) 3 #[.int .i64 0] ∧ Blk V (w.heap.size + 1 + 1 + 1) 9 #[.string ⟨#[]⟩] ∧ Blk V (w.heap.size + 1 + 1 + 1 + 1) 4 #[.bool false] ∧ Blk V (w.heap.size + 1 + 1 + 1 + 1 + 1) 4 #[.bool false] ∧ Below w.heap.size w V) (fun W => rfl) ?_).mono ?_
  · have b0 := ((((((Blk.new w 22 #[.slice A n c]).alloc (.cells #[.int .i64 0] 3)).alloc (.cells #[.int .i64 0] 3)).alloc (.cells #[.string ⟨#[]⟩] 9)).alloc (.cells #[.bool false] 4)).alloc (.cells #[.bool false] 4)).alloc (.cells #[.bool false] 4)
    have b1 := (((((Blk.new (w.alloc (.cells #[.slice A n c] 22)) 3 #[.int .i64 0]).alloc (.cells #[.int .i64 0] 3)).alloc (.cells #[.string ⟨#[]⟩] 9)).alloc (.cells #[.bool false] 4)).alloc (.cells #[.bool false] 4)).alloc (.cells #[.bool false] 4)
    have b2 := ((((Blk.new ((w.alloc (.cells #[.slice A n c] 22)).alloc (.cells #[.int .i64 0] 3)) 3 #[.int .i64 0]).alloc (.cells #[.string ⟨#[]⟩] 9)).alloc (.cells #[.bool false] 4)).alloc (.cells #[.bool false] 4)).alloc (.cells #[.bool false] 4)
    have b3 := (((Blk.new (((w.alloc (.cells #[.slice A n c] 22)).alloc (.cells #[.int .i64 0] 3)).alloc (.cells #[.int .i64 0] 3)) 9 #[.string ⟨#[]⟩]).alloc (.cells #[.bool false] 4)).alloc (.cells #[.bool false] 4)).alloc (.cells #[.bool false] 4)
    have b4 := ((Blk.new ((((w.alloc (.cells #[.slice A n c] 22)).alloc (.cells #[.int .i64 0] 3)).alloc (.cells #[.int .i64 0] 3)).alloc (.cells #[.string ⟨#[]⟩] 9)) 4 #[.bool false]).alloc (.cells #[.bool false] 4)).alloc (.cells #[.bool false] 4)
    have b5 := (Blk.new (((((w.alloc (.cells #[.slice A n c] 22)).alloc (.cells #[.int .i64 0] 3)).alloc (.cells #[.int .i64 0] 3)).alloc (.cells #[.string ⟨#[]⟩] 9)).alloc (.cells #[.bool false] 4)) 4 #[.bool false]).alloc (.cells #[.bool false] 4)
    have b6 := Blk.new ((((((w.alloc (.cells #[.slice A n c] 22)).alloc (.cells #[.int .i64 0] 3)).alloc (.cells #[.int .i64 0] 3)).alloc (.cells #[.string ⟨#[]⟩] 9)).alloc (.cells #[.bool false] 4)).alloc (.cells #[.bool false] 4)) 4 #[.bool false]
    have hr' := (((((((hr.new (.cells #[.slice A n c] 22)).new (.cells #[.int .i64 0] 3)).new (.cells #[.int .i64 0] 3)).new (.cells #[.string ⟨#[]⟩] 9)).new (.cells #[.bool false] 4)).new (.cells #[.bool false] 4)).new (.cells #[.bool false] 4))
    have hbA : Below w.heap.size w (((((((w.alloc (.cells #[.slice A n c] 22)).alloc (.cells #[.int .i64 0] 3)).alloc (.cells #[.int .i64 0] 3)).alloc (.cells #[.string ⟨#[]⟩] 9)).alloc (.cells #[.bool false] 4)).alloc (.cells #[.bool false] 4)).alloc (.cells #[.bool false] 4)) := ((((((((Below.refl _ _).alloc (by first | exact Nat.le_refl _ | (simp only [World.size_alloc]; omega)) (.cells #[.slice A n c] 22)).alloc (by first | exact Nat.le_refl _ | (simp only [World.size_alloc]; omega)) (.cells #[.int .i64 0] 3)).alloc (by first | exact Nat.le_refl _ | (simp only [World.size_alloc]; omega)) (.cells #[.int .i64 0] 3)).alloc (by first | exact Nat.le_refl _ | (simp only [World.size_alloc]; omega)) (.cells #[.string ⟨#[]⟩] 9)).alloc (by first | exact Nat.le_refl _ | (simp only [World.size_alloc]; omega)) (.cells #[.bool false] 4)).alloc (by first | exact Nat.le_refl _ | (simp only [World.size_alloc]; omega)) (.cells #[.bool false] 4)).alloc (by first | exact Nat.le_refl _ | (simp only [World.size_alloc]; omega)) (.cells #[.bool false] 4))
    have hsA : (((((((w.alloc (.cells #[.slice A n c] 22)).alloc (.cells #[.int .i64 0] 3)).alloc (.cells #[.int .i64 0] 3)).alloc (.cells #[.string ⟨#[]⟩] 9)).alloc (.cells #[.bool false] 4)).alloc (.cells #[.bool false] 4)).alloc (.cells #[.bool false] 4)).heap.size = w.heap.size + 7 := by simp
    generalize (((((((w.alloc (.cells #[.slice A n c] 22)).alloc (.cells #[.int .i64 0] 3)).alloc (.cells #[.int .i64 0] 3)).alloc (.cells #[.string ⟨#[]⟩] 9)).alloc (.cells #[.bool false] 4)).alloc (.cells #[.bool false] 4)).alloc (.cells #[.bool false] 4)) = W at *
    simp only [World.size_alloc] at *
    refine (ParseGreeting_f w.heap.size (w.heap.size + 1) A n c l mj mi ms sv ok hz W hr' hn b0 b1 b2 b3 b4 b5).mono ?_
    rintro e w' ⟨rfl, V, rfl, hbV⟩
    have t6 : Blk (five V (w.heap.size + 1) (.int .i64 mj.toNat) (.int .i64 mi.toNat) (.string ms) (.bool sv) (.bool ok)).drew (w.heap.size + 1 + 1 + 1 + 1 + 1 + 1) 4 #[.bool false] := (five_far (b6.after hbV (Nat.le_refl _)) (by omega) _ _ _ _ _).drew
    exact ⟨t6.cell0, t6.frozen 0, .inl ⟨rfl, rfl, V, rfl, b1.after hbV (Nat.le_refl _), b2.after hbV (Nat.le_refl _), b3.after hbV (Nat.le_refl _), b4.after hbV (Nat.le_refl _), b5.after hbV (Nat.le_refl _), below_seq hbA hbV hbA.size⟩⟩
  rintro e w' ⟨q, w1, rfl, ⟨rfl, V, rfl, b1, b2, b3, b4, b5, hbV⟩, rfl⟩
  simp only [World.size_alloc]
  have t1 := (five_1 b1 (.int .i64 mj.toNat) (.int .i64 mi.toNat) (.string ms) (.bool sv) (.bool ok)).drew
  have t2 := (five_2 b2 (.int .i64 mj.toNat) (.int .i64 mi.toNat) (.string ms) (.bool sv) (.bool ok)).drew
  have t3 := (five_3 b3 (.int .i64 mj.toNat) (.int .i64 mi.toNat) (.string ms) (.bool sv) (.bool ok)).drew
  have t4 := (five_4 b4 (.int .i64 mj.toNat) (.int .i64 mi.toNat) (.string ms) (.bool sv) (.bool ok)).drew
  have t5 := (five_5 b5 (.int .i64 mj.toNat) (.int .i64 mi.toNat) (.string ms) (.bool sv) (.bool ok)).drew
  have hb : Below w.heap.size w (five V (w.heap.size + 1) (.int .i64 mj.toNat) (.int .i64 mi.toNat) (.string ms) (.bool sv) (.bool ok)).drew := (five_below hbV (by omega) _ _ _ _ _).drew
  generalize (five V (w.heap.size + 1) (.int .i64 mj.toNat) (.int .i64 mi.toNat) (.string ms) (.bool sv) (.bool ok)).drew = V2 at *
  have t1 := t1.farN (b := w.heap.size + 1 + 1 + 1 + 1 + 1 + 1) (o := 0) (by omega) (.bool true)
  have t2 := t2.farN (b := w.heap.size + 1 + 1 + 1 + 1 + 1 + 1) (o := 0) (by omega) (.bool true)
  have t3 := t3.farN (b := w.heap.size + 1 + 1 + 1 + 1 + 1 + 1) (o := 0) (by omega) (.bool true)
  have t4 := t4.farN (b := w.heap.size + 1 + 1 + 1 + 1 + 1 + 1) (o := 0) (by omega) (.bool true)
  have t5 := t5.farN (b := w.heap.size + 1 + 1 + 1 + 1 + 1 + 1) (o := 0) (by omega) (.bool true)
  have hb := below_setN (b := w.heap.size + 1 + 1 + 1 + 1 + 1 + 1) (o := 0) hb (by omega) (.bool true)
  generalize V2.setCell ⟨w.heap.size + 1 + 1 + 1 + 1 + 1 + 1, 0, none⟩ (.bool true) = W at *
  have c1 := t1.cell0
  have c2 := t2.cell0
  have c3 := t3.cell0
  have c4 := t4.cell0
  have c5 := t5.cell0
  have f1 := t1.frozen 0
  have f2 := t2.frozen 0
  have f3 := t3.frozen 0
  have f4 := t4.frozen 0
  have f5 := t5.frozen 0
  have HT := Lib.hid (⟨t1, t2, t3, t4, t5, hb⟩ : _ ∧ _ ∧ _ ∧ _ ∧ _ ∧ _)
  clear hz hr b1 b2 b3 b4 b5 hbV t1 t2 t3 t4 t5 hb hmf
  cases ok
  · obtain ⟨rfl, rfl, rfl, rfl⟩ := hno rfl
    go_wp2_with fail
    have HT := HT.out
    have k1 := (five_1 HT.1 (.int .i64 0) (.int .i64 0) (.string ⟨#[]⟩) (.bool false) (.bool false)).cell0
    have k2 := (five_2 HT.2.1 (.int .i64 0) (.int .i64 0) (.string ⟨#[]⟩) (.bool false) (.bool false)).cell0
    have k3 := (five_3 HT.2.2.1 (.int .i64 0) (.int .i64 0) (.string ⟨#[]⟩) (.bool false) (.bool false)).cell0
    have k4 := (five_4 HT.2.2.2.1 (.int .i64 0) (.int .i64 0) (.string ⟨#[]⟩) (.bool false) (.bool false)).cell0
    have k5 := (five_5 HT.2.2.2.2.1 (.int .i64 0) (.int .i64 0) (.string ⟨#[]⟩) (.bool false) (.bool false)).cell0
    have hb := five_below HT.2.2.2.2.2 (p := w.heap.size + 1) (by omega) (.int .i64 0) (.int .i64 0) (.string ⟨#[]⟩) (.bool false) (.bool false)
    unfold five at k1 k2 k3 k4 k5 hb
    refine bodyPost_ret (v := .tuple #[.int .i64 0, .int .i64 0, .string ⟨#[]⟩, .bool false, .bool false]) (by simp [results, Try.results16, go_sem, k1, k2, k3, k4, k5]) rfl ⟨rfl, hb⟩
  · clear hno
    go_wp2_with fail
    go_region
    go_wp2_with fail
    have HT := HT.out
    have k1 := (five_1 HT.1 (.int .i64 mj.toNat) (.int .i64 mi.toNat) (.string ms) (.bool sv) (.bool true)).cell0
    have k2 := (five_2 HT.2.1 (.int .i64 mj.toNat) (.int .i64 mi.toNat) (.string ms) (.bool sv) (.bool true)).cell0
    have k3 := (five_3 HT.2.2.1 (.int .i64 mj.toNat) (.int .i64 mi.toNat) (.string ms) (.bool sv) (.bool true)).cell0
    have k4 := (five_4 HT.2.2.2.1 (.int .i64 mj.toNat) (.int .i64 mi.toNat) (.string ms) (.bool sv) (.bool true)).cell0
    have k5 := (five_5 HT.2.2.2.2.1 (.int .i64 mj.toNat) (.int .i64 mi.toNat) (.string ms) (.bool sv) (.bool true)).cell0
    have hb := five_below HT.2.2.2.2.2 (p := w.heap.size + 1) (by omega) (.int .i64 mj.toNat) (.int .i64 mi.toNat) (.string ms) (.bool sv) (.bool true)
    unfold five at k1 k2 k3 k4 k5 hb
    refine bodyPost_ret (v := .tuple #[.int .i64 mj.toNat, .int .i64 mi.toNat, .string ms, .bool sv, .bool true]) (by simp [results, Try.results16, go_sem, k1, k2, k3, k4, k5]) rfl ⟨rfl, hb.drew⟩
end Go.Proofs.Ytkpcepdalegmmaa
