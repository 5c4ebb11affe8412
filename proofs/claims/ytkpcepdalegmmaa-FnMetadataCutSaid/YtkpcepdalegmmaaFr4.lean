/- Frames: spec.Frames. -/
import Derived.Test.YtkpcepdalegmmaaFr3
namespace Go.Proofs.Ytkpcepdalegmmaa
open Go.RowKit

def flagU : Bool → Bool → UInt8
  | false, false => 0
  | false, true => 1
  | true, false => 4
  | true, true => 5
def longU : Bool → Bool → UInt8
  | false, false => 2
  | false, true => 3
  | true, false => 6
  | true, true => 7
def be8 (n : Nat) : List UInt8 := [0, 0, 0, 0, 0, 0, UInt8.ofNat (n / 256), UInt8.ofNat n]
def headF (cmd more : Bool) (n : Nat) : List UInt8 := if n ≤ 255 then [flagU cmd more, UInt8.ofNat n] else longU cmd more :: be8 n
def encF (f : Fr) : List UInt8 := headF f.cmd f.more f.n ++ f.body
def encs (fs : List Fr) : List UInt8 := fs.flatMap encF

theorem headF_small {c m : Bool} {n : Nat} (h : n ≤ 255) : headF c m n = [flagU c m, UInt8.ofNat n] := if_pos h
theorem headF_long {c m : Bool} {n : Nat} (h : ¬ n ≤ 255) : headF c m n = longU c m :: be8 n := if_neg h
theorem litTwo (w : World) (x : UInt8) (n : Nat) (hn : n ≤ 255) : RB (w.alloc (.cells #[.int .u8 (x.toNat : Int), .int .u8 (n : Int)] 5)) (w.alloc (.cells #[.int .u8 (x.toNat : Int), .int .u8 (n : Int)] 5)).heap.size (some ⟨w.heap.size, 0, none⟩) 2 [x, UInt8.ofNat n] :=
  (OB.lit w 0 (Nat.zero_le _) [x, UInt8.ofNat n] _ (by
    have e : (UInt8.ofNat n).toNat = n := by simp; omega
    simp [bv, e]) 2 rfl (by decide)).rb
theorem litOne8 (w : World) (x : UInt8) : RB (w.alloc (.cells #[.int .u8 (x.toNat : Int)] 5)) (w.alloc (.cells #[.int .u8 (x.toNat : Int)] 5)).heap.size (some ⟨w.heap.size, 0, none⟩) 1 [x] :=
  (OB.lit w 0 (Nat.zero_le _) [x] _ rfl 1 rfl (by decide)).rb
theorem byteInt (n q : Nat) : ((UInt8.ofNat (n / 2 ^ (8 * q))).toNat : Int) = (n : Int) / 2 ^ (8 * q) % 256 := by
  have h : (UInt8.ofNat (n / 2 ^ (8 * q))).toNat = n / 2 ^ (8 * q) % 256 := by generalize n / 2 ^ (8 * q) = y; simp
  rw [h, Int.natCast_emod, Int.natCast_ediv, Int.natCast_pow]
  rfl
theorem be8_snoc {n j q : Nat} (hn : n ≤ 1000) (hj : j < 8) (hq : (7 - (j : Int)) = (q : Int)) : (be8 n).take j ++ [UInt8.ofNat (n / 2 ^ (8 * q))] = (be8 n).take (j + 1) := by
  have hz : ∀ k, 1000 < k → n / k = 0 := fun k hk => Nat.div_eq_of_lt (by omega)
  have : j = 0 ∨ j = 1 ∨ j = 2 ∨ j = 3 ∨ j = 4 ∨ j = 5 ∨ j = 6 ∨ j = 7 := by omega
  rcases this with rfl | rfl | rfl | rfl | rfl | rfl | rfl | rfl
  · obtain rfl : q = 7 := by omega
    rw [hz _ (by decide)]; rfl
  · obtain rfl : q = 6 := by omega
    rw [hz _ (by decide)]; rfl
  · obtain rfl : q = 5 := by omega
    rw [hz _ (by decide)]; rfl
  · obtain rfl : q = 4 := by omega
    rw [hz _ (by decide)]; rfl
  · obtain rfl : q = 3 := by omega
    rw [hz _ (by decide)]; rfl
  · obtain rfl : q = 2 := by omega
    rw [hz _ (by decide)]; rfl
  · obtain rfl : q = 1 := by omega
    rfl
  · obtain rfl : q = 0 := by omega
    simp [be8]
theorem long_done {w : World} {base n c : Nat} {A : Option Addr} {l : List UInt8} {x : UInt8} {k : Nat} (ho : OB w base A n c (l ++ [x] ++ (be8 k).take 8)) : OB w base A n c (l ++ (x :: be8 k)) := by
  have e : l ++ [x] ++ (be8 k).take 8 = l ++ (x :: be8 k) := by simp [be8]
  rw [← e]
  exact ho
theorem g6_ne {w : World} {A : Option Addr} {H base n c : Nat} {l : List UInt8} {t : TypeId} {cs : Array Value} (ho : OB w base A n c l) (hg : Blk w H t cs) (hne : 5 ≠ t) : some H ≠ A.map (·.block) := by
  have := own_blk_ne ho hg hne
  cases A with
  | none => simp
  | some ad =>
    simp [Value.ownBlock] at this ⊢
    exact fun e => this e.symm
theorem OB.row_ne {w : World} {A : Option Addr} {base n c g : Nat} {l : List UInt8} (ho : OB w base A n c l) (hg : w.heap.size ≤ g) : some g ≠ A.map (·.block) := by
  cases A with
  | none => simp
  | some ad =>
    have := (ho.block rfl).2
    simp
    omega
theorem enc_snoc {w : World} {fs : List Fr} {k base n c : Nat} {A : Option Addr} {f : Fr} {h : List UInt8} (hf : fs[k]? = some f) (hh : headF f.cmd f.more f.n = h) (ho : OB w base A n c (encs (fs.take k) ++ h ++ f.body)) : OB w base A n c (encs (fs.take (k + 1))) := by
  obtain ⟨hk, e⟩ := List.getElem?_eq_some_iff.1 hf
  have e2 : encs (fs.take (k + 1)) = encs (fs.take k) ++ h ++ f.body := by
    rw [List.take_succ_eq_append_getElem hk, e]
    simp [encs, encF, hh]
  rw [e2]
  exact ho

set_option maxRecDepth 100000 in
set_option maxHeartbeats 8000000 in
theorem spec_Frames (A : Option Addr) (n c : Nat) (fs : List Fr) (w : World) (hr : FrS w w.heap.size A n fs) (hn : n ≤ 20) (hb : ∀ f ∈ fs, f.n ≤ 1000) :
    Calls Try.prog 21 #[.slice A n c] w fun e w' => ∃ A' n' c', e = .returned (.slice A' n' c') ∧ OB w' w.heap.size A' n' c' (encs fs) ∧ Below w.heap.size w w' := by
  go_enter Try.func21, Try.ntmps21
  go_wp2_with fail
  go_loopw [3, 11] (fun v i wr => ∃ (k : Nat) (A' : Option Addr) (n' c' : Nat), k ≤ n ∧ i = .int .i64 k ∧ v = .slice A' n' c' ∧ n' ≤ 1100 * k ∧ OB wr w.heap.size A' n' c' (encs (fs.take k)) ∧ Below w.heap.size w wr) (fun _ i _ => n - (intOf i).toNat)
  case atStart => exact ⟨0, none, 0, 0, Nat.zero_le _, rfl, rfl, Nat.zero_le _, OB.nil_ _ _, Below.refl _ _⟩
  case round =>
    obtain ⟨k, A', n', c', hk, rfl, rfl, hn', ho, hbl⟩ := hrel
    by_cases hkn : k < n
    · obtain ⟨ad, f, rfl, hadb, hf, h1, h2, h3⟩ := (hr.after hbl).at_ hkn
      have hf' := Lib.hid hf
      have hfn := hb f (List.mem_of_getElem? hf)
      have hbody := (hr.2 f (List.mem_of_getElem? hf)).1
      obtain ⟨cmd, more, fA, fn, fc, body⟩ := f
      simp only at h1 h2 h3 hfn hbody
      clear hf hb
      have hbl2 := hbl.alloc hbl.size (.cells #[.bool cmd, .bool more, .slice fA fn fc] 73)
      have g0 := (Blk.new wr 73 #[.bool cmd, .bool more, .slice fA fn fc])
      by_cases hs : fn ≤ 255
      · cases cmd <;> cases more
        · have l2 : RB ((wr.alloc (.cells #[.bool false, .bool false, .slice fA fn fc] 73)).alloc (.cells #[.int .u8 0, .int .u8 (fn : Int)] 5)) (wr.heap.size + 1 + 1) (some ⟨wr.heap.size + 1, 0, none⟩) 2 [flagU false false, UInt8.ofNat fn] := by
            have := litTwo (wr.alloc (.cells #[.bool false, .bool false, .slice fA fn fc] 73)) (flagU false false) fn hs
            rw [World.size_alloc, World.size_alloc] at this
            exact this
          go_wp2_with (first
          | (at_builtin
             refine wpl_appB (o := ⟨some 33, _, _, _, _, _⟩) rfl (.tmp 28) (.tmp 32) 22 rfl w.heap.size _ n' _ _ rfl ((ho.alloc _).alloc _) _ 2 _ rfl (srcB l2) (n' + 2) rfl (by omega) (by have := hbl2.size; simp at this ⊢; omega) ?_
             intro A4 c4 w4 ho4 hg4 ha4
             have hbl4 : Below w.heap.size w w4 := (hbl2.alloc hbl2.size _).grown hg4 (by have := hbl2.size; simp at this ⊢; omega) (fun k hk => ho.base_le hk)
             have g4 := (g0.alloc _).grown hg4 (ho.row_ne (Nat.le_refl _))
             have g40 := g4.cell 2
             simp only [List.getElem?_toArray, List.getElem?_cons_zero, List.getElem?_cons_succ] at g40)
          | (at_builtin
             refine wpl_appB (o := ⟨some 55, _, _, _, _, _⟩) rfl (.tmp 52) (.tmp 54) 22 rfl w.heap.size _ (n' + 2) _ _ rfl ho4 _ fn body rfl (srcB (hbody.below hbl4)) ((n' + 2) + fn) rfl (by omega) (by have := hbl4.size; omega) ?_
             intro A5 c5 w5 ho5 hg5 ha5
             have hbl5 : Below w.heap.size w w5 := hbl4.grown hg5 hbl4.size (fun k hk => ho4.base_le hk)))
          have hd := Lib.hid (enc_snoc hf'.out (headF_small (c := false) (m := false) hs) ho5)
          clear l2 ho4 ho5 g4 g40 g0 h1 h2 h3 hf'
          go_roundw
          case rel => exact ⟨k + 1, A5, n' + 2 + fn, c5, by omega, by go_num, rfl, by omega, hd.out, hbl5⟩
          case measure => simp [intOf]; omega
        · have l2 : RB ((wr.alloc (.cells #[.bool false, .bool true, .slice fA fn fc] 73)).alloc (.cells #[.int .u8 1, .int .u8 (fn : Int)] 5)) (wr.heap.size + 1 + 1) (some ⟨wr.heap.size + 1, 0, none⟩) 2 [flagU false true, UInt8.ofNat fn] := by
            have := litTwo (wr.alloc (.cells #[.bool false, .bool true, .slice fA fn fc] 73)) (flagU false true) fn hs
            rw [World.size_alloc, World.size_alloc] at this
            exact this
          go_wp2_with (first
          | (at_builtin
             refine wpl_appB (o := ⟨some 33, _, _, _, _, _⟩) rfl (.tmp 28) (.tmp 32) 22 rfl w.heap.size _ n' _ _ rfl ((ho.alloc _).alloc _) _ 2 _ rfl (srcB l2) (n' + 2) rfl (by omega) (by have := hbl2.size; simp at this ⊢; omega) ?_
             intro A4 c4 w4 ho4 hg4 ha4
             have hbl4 : Below w.heap.size w w4 := (hbl2.alloc hbl2.size _).grown hg4 (by have := hbl2.size; simp at this ⊢; omega) (fun k hk => ho.base_le hk)
             have g4 := (g0.alloc _).grown hg4 (ho.row_ne (Nat.le_refl _))
             have g40 := g4.cell 2
             simp only [List.getElem?_toArray, List.getElem?_cons_zero, List.getElem?_cons_succ] at g40)
          | (at_builtin
             refine wpl_appB (o := ⟨some 55, _, _, _, _, _⟩) rfl (.tmp 52) (.tmp 54) 22 rfl w.heap.size _ (n' + 2) _ _ rfl ho4 _ fn body rfl (srcB (hbody.below hbl4)) ((n' + 2) + fn) rfl (by omega) (by have := hbl4.size; omega) ?_
             intro A5 c5 w5 ho5 hg5 ha5
             have hbl5 : Below w.heap.size w w5 := hbl4.grown hg5 hbl4.size (fun k hk => ho4.base_le hk)))
          have hd := Lib.hid (enc_snoc hf'.out (headF_small (c := false) (m := true) hs) ho5)
          clear l2 ho4 ho5 g4 g40 g0 h1 h2 h3 hf'
          go_roundw
          case rel => exact ⟨k + 1, A5, n' + 2 + fn, c5, by omega, by go_num, rfl, by omega, hd.out, hbl5⟩
          case measure => simp [intOf]; omega
        · have l2 : RB ((wr.alloc (.cells #[.bool true, .bool false, .slice fA fn fc] 73)).alloc (.cells #[.int .u8 4, .int .u8 (fn : Int)] 5)) (wr.heap.size + 1 + 1) (some ⟨wr.heap.size + 1, 0, none⟩) 2 [flagU true false, UInt8.ofNat fn] := by
            have := litTwo (wr.alloc (.cells #[.bool true, .bool false, .slice fA fn fc] 73)) (flagU true false) fn hs
            rw [World.size_alloc, World.size_alloc] at this
            exact this
          go_wp2_with (first
          | (at_builtin
             refine wpl_appB (o := ⟨some 33, _, _, _, _, _⟩) rfl (.tmp 28) (.tmp 32) 22 rfl w.heap.size _ n' _ _ rfl ((ho.alloc _).alloc _) _ 2 _ rfl (srcB l2) (n' + 2) rfl (by omega) (by have := hbl2.size; simp at this ⊢; omega) ?_
             intro A4 c4 w4 ho4 hg4 ha4
             have hbl4 : Below w.heap.size w w4 := (hbl2.alloc hbl2.size _).grown hg4 (by have := hbl2.size; simp at this ⊢; omega) (fun k hk => ho.base_le hk)
             have g4 := (g0.alloc _).grown hg4 (ho.row_ne (Nat.le_refl _))
             have g40 := g4.cell 2
             simp only [List.getElem?_toArray, List.getElem?_cons_zero, List.getElem?_cons_succ] at g40)
          | (at_builtin
             refine wpl_appB (o := ⟨some 55, _, _, _, _, _⟩) rfl (.tmp 52) (.tmp 54) 22 rfl w.heap.size _ (n' + 2) _ _ rfl ho4 _ fn body rfl (srcB (hbody.below hbl4)) ((n' + 2) + fn) rfl (by omega) (by have := hbl4.size; omega) ?_
             intro A5 c5 w5 ho5 hg5 ha5
             have hbl5 : Below w.heap.size w w5 := hbl4.grown hg5 hbl4.size (fun k hk => ho4.base_le hk)))
          have hd := Lib.hid (enc_snoc hf'.out (headF_small (c := true) (m := false) hs) ho5)
          clear l2 ho4 ho5 g4 g40 g0 h1 h2 h3 hf'
          go_roundw
          case rel => exact ⟨k + 1, A5, n' + 2 + fn, c5, by omega, by go_num, rfl, by omega, hd.out, hbl5⟩
          case measure => simp [intOf]; omega
        · have l2 : RB ((wr.alloc (.cells #[.bool true, .bool true, .slice fA fn fc] 73)).alloc (.cells #[.int .u8 5, .int .u8 (fn : Int)] 5)) (wr.heap.size + 1 + 1) (some ⟨wr.heap.size + 1, 0, none⟩) 2 [flagU true true, UInt8.ofNat fn] := by
            have := litTwo (wr.alloc (.cells #[.bool true, .bool true, .slice fA fn fc] 73)) (flagU true true) fn hs
            rw [World.size_alloc, World.size_alloc] at this
            exact this
          go_wp2_with (first
          | (at_builtin
             refine wpl_appB (o := ⟨some 33, _, _, _, _, _⟩) rfl (.tmp 28) (.tmp 32) 22 rfl w.heap.size _ n' _ _ rfl ((ho.alloc _).alloc _) _ 2 _ rfl (srcB l2) (n' + 2) rfl (by omega) (by have := hbl2.size; simp at this ⊢; omega) ?_
             intro A4 c4 w4 ho4 hg4 ha4
             have hbl4 : Below w.heap.size w w4 := (hbl2.alloc hbl2.size _).grown hg4 (by have := hbl2.size; simp at this ⊢; omega) (fun k hk => ho.base_le hk)
             have g4 := (g0.alloc _).grown hg4 (ho.row_ne (Nat.le_refl _))
             have g40 := g4.cell 2
             simp only [List.getElem?_toArray, List.getElem?_cons_zero, List.getElem?_cons_succ] at g40)
          | (at_builtin
             refine wpl_appB (o := ⟨some 55, _, _, _, _, _⟩) rfl (.tmp 52) (.tmp 54) 22 rfl w.heap.size _ (n' + 2) _ _ rfl ho4 _ fn body rfl (srcB (hbody.below hbl4)) ((n' + 2) + fn) rfl (by omega) (by have := hbl4.size; omega) ?_
             intro A5 c5 w5 ho5 hg5 ha5
             have hbl5 : Below w.heap.size w w5 := hbl4.grown hg5 hbl4.size (fun k hk => ho4.base_le hk)))
          have hd := Lib.hid (enc_snoc hf'.out (headF_small (c := true) (m := true) hs) ho5)
          clear l2 ho4 ho5 g4 g40 g0 h1 h2 h3 hf'
          go_roundw
          case rel => exact ⟨k + 1, A5, n' + 2 + fn, c5, by omega, by go_num, rfl, by omega, hd.out, hbl5⟩
          case measure => simp [intOf]; omega
      · cases cmd <;> cases more
        · have l1 : RB ((wr.alloc (.cells #[.bool false, .bool false, .slice fA fn fc] 73)).alloc (.cells #[.int .u8 2] 5)) (wr.heap.size + 1 + 1) (some ⟨wr.heap.size + 1, 0, none⟩) 1 [longU false false] := by
            have := litOne8 (wr.alloc (.cells #[.bool false, .bool false, .slice fA fn fc] 73)) (longU false false)
            rw [World.size_alloc, World.size_alloc] at this
            exact this
          go_wp2_with (first
          | (at_builtin
             refine wpl_appB (o := ⟨some 38, _, _, _, _, _⟩) rfl (.tmp 34) (.tmp 37) 22 rfl w.heap.size _ n' _ _ rfl ((ho.alloc _).alloc _) _ 1 _ rfl (srcB l1) (n' + 1) rfl (by omega) (by have := hbl2.size; simp at this ⊢; omega) ?_
             intro A4 c4 w4 ho4 hg4 ha4
             have hbl4 : Below w.heap.size w w4 := (hbl2.alloc hbl2.size _).grown hg4 (by have := hbl2.size; simp at this ⊢; omega) (fun k hk => ho.base_le hk)
             have g4 := (g0.alloc _).grown hg4 (ho.row_ne (Nat.le_refl _))))
          clear l1 h1 h2 h3
          go_loopw [3, 8] (fun v i wr2 => ∃ (j : Nat) (A6 : Option Addr) (c6 : Nat), j ≤ 8 ∧ i = .int .i64 (7 - (j : Int)) ∧ v = .slice A6 (n' + 1 + j) c6 ∧ OB wr2 w.heap.size A6 (n' + 1 + j) c6 (encs (fs.take k) ++ [longU false false] ++ (be8 fn).take j) ∧ Blk wr2 wr.heap.size 73 #[.bool false, .bool false, .slice fA fn fc] ∧ Below w.heap.size w wr2) (fun _ i _ => (intOf i + 1).toNat)
          case atStart => exact ⟨0, A4, c4, by omega, rfl, rfl, by simpa using ho4, g4, hbl4⟩
          case round =>
            obtain ⟨j, A6, c6, hj, rfl, rfl, ho6, g6, hbl6⟩ := hrel
            clear ho4 g4 hg4 ha4 hbl4 g0 ho
            by_cases hj8 : j < 8
            · obtain ⟨q, hq⟩ : ∃ q : Nat, (7 - (j : Int)) = (q : Int) := ⟨7 - j, by omega⟩
              rw [hq]
              have hq7 : q ≤ 7 := by omega
              have hx := byteInt fn q
              have l3 : RB (wr.alloc (.cells #[.int .u8 ((fn : Int) / 2 ^ (8 * q) % 256)] 5)) (wr.alloc (.cells #[.int .u8 ((fn : Int) / 2 ^ (8 * q) % 256)] 5)).heap.size (some ⟨wr.heap.size, 0, none⟩) 1 [UInt8.ofNat (fn / 2 ^ (8 * q))] := by
                rw [← hx]
                exact litOne8 wr _
              have HX := Lib.hid hx
              have HN := Lib.hid (be8_snoc hfn hj8 hq)
              clear hx
              go_wp2_with (first
                | (at_builtin
                   refine wpl_appB (o := ⟨some 51, _, _, _, _, _⟩) rfl (.tmp 43) (.tmp 50) 22 rfl w.heap.size _ (n' + 1 + j) _ _ rfl (ho6.alloc _) _ 1 _ rfl (srcB l3) (n' + 1 + (j + 1)) (by omega) (by omega) (by have := hbl6.size; simp; omega) ?_
                   intro A7 c7 w7 ho7 hg7 ha7
                   have hbl7 : Below w.heap.size w w7 := (hbl6.alloc hbl6.size _).grown hg7 (by have := hbl6.size; simp; omega) (fun k hk => ho6.base_le hk)
                   have g7 := (g6.alloc (.cells #[.int .u8 ((fn : Int) / 2 ^ (8 * q) % 256)] 5)).grown hg7 (g6_ne ho6 g6 (by decide))))
              rw [List.append_assoc, HN.out] at ho7
              clear l3
              go_roundw
              case rel => exact ⟨j + 1, A7, c7, by omega, by go_num, rfl, ho7, g7, hbl7⟩
              case measure => simp [intOf]
            · have hj9 : j = 8 := by omega
              subst hj9
              have g60 := g6.cell 2
              simp only [List.getElem?_toArray, List.getElem?_cons_zero, List.getElem?_cons_succ] at g60
              have ho8 := long_done ho6
              clear ho6
              go_wp2_with (first
                | (at_builtin
                   refine wpl_appB (o := ⟨some 55, _, _, _, _, _⟩) rfl (.tmp 52) (.tmp 54) 22 rfl w.heap.size _ (n' + 1 + 8) _ _ rfl ho8 _ fn body rfl (srcB (hbody.below hbl6)) ((n' + 1 + 8) + fn) rfl (by omega) (by have := hbl6.size; omega) ?_
                   intro A5 c5 w5 ho5 hg5 ha5
                   have hbl5 : Below w.heap.size w w5 := hbl6.grown hg5 hbl6.size (fun k hk => ho8.base_le hk)))
              have hd := Lib.hid (enc_snoc hf'.out (headF_long (c := false) (m := false) hs) ho5)
              clear ho8 ho5 g6 g60 hf'
              go_roundw
              case rel => exact ⟨k + 1, A5, n' + 1 + 8 + fn, c5, by omega, by go_num, rfl, by omega, hd.out, hbl5⟩
              case measure => simp [intOf]; omega
        · have l1 : RB ((wr.alloc (.cells #[.bool false, .bool true, .slice fA fn fc] 73)).alloc (.cells #[.int .u8 3] 5)) (wr.heap.size + 1 + 1) (some ⟨wr.heap.size + 1, 0, none⟩) 1 [longU false true] := by
            have := litOne8 (wr.alloc (.cells #[.bool false, .bool true, .slice fA fn fc] 73)) (longU false true)
            rw [World.size_alloc, World.size_alloc] at this
            exact this
          go_wp2_with (first
          | (at_builtin
             refine wpl_appB (o := ⟨some 38, _, _, _, _, _⟩) rfl (.tmp 34) (.tmp 37) 22 rfl w.heap.size _ n' _ _ rfl ((ho.alloc _).alloc _) _ 1 _ rfl (srcB l1) (n' + 1) rfl (by omega) (by have := hbl2.size; simp at this ⊢; omega) ?_
             intro A4 c4 w4 ho4 hg4 ha4
             have hbl4 : Below w.heap.size w w4 := (hbl2.alloc hbl2.size _).grown hg4 (by have := hbl2.size; simp at this ⊢; omega) (fun k hk => ho.base_le hk)
             have g4 := (g0.alloc _).grown hg4 (ho.row_ne (Nat.le_refl _))))
          clear l1 h1 h2 h3
          go_loopw [3, 8] (fun v i wr2 => ∃ (j : Nat) (A6 : Option Addr) (c6 : Nat), j ≤ 8 ∧ i = .int .i64 (7 - (j : Int)) ∧ v = .slice A6 (n' + 1 + j) c6 ∧ OB wr2 w.heap.size A6 (n' + 1 + j) c6 (encs (fs.take k) ++ [longU false true] ++ (be8 fn).take j) ∧ Blk wr2 wr.heap.size 73 #[.bool false, .bool true, .slice fA fn fc] ∧ Below w.heap.size w wr2) (fun _ i _ => (intOf i + 1).toNat)
          case atStart => exact ⟨0, A4, c4, by omega, rfl, rfl, by simpa using ho4, g4, hbl4⟩
          case round =>
            obtain ⟨j, A6, c6, hj, rfl, rfl, ho6, g6, hbl6⟩ := hrel
            clear ho4 g4 hg4 ha4 hbl4 g0 ho
            by_cases hj8 : j < 8
            · obtain ⟨q, hq⟩ : ∃ q : Nat, (7 - (j : Int)) = (q : Int) := ⟨7 - j, by omega⟩
              rw [hq]
              have hq7 : q ≤ 7 := by omega
              have hx := byteInt fn q
              have l3 : RB (wr.alloc (.cells #[.int .u8 ((fn : Int) / 2 ^ (8 * q) % 256)] 5)) (wr.alloc (.cells #[.int .u8 ((fn : Int) / 2 ^ (8 * q) % 256)] 5)).heap.size (some ⟨wr.heap.size, 0, none⟩) 1 [UInt8.ofNat (fn / 2 ^ (8 * q))] := by
                rw [← hx]
                exact litOne8 wr _
              have HX := Lib.hid hx
              have HN := Lib.hid (be8_snoc hfn hj8 hq)
              clear hx
              go_wp2_with (first
                | (at_builtin
                   refine wpl_appB (o := ⟨some 51, _, _, _, _, _⟩) rfl (.tmp 43) (.tmp 50) 22 rfl w.heap.size _ (n' + 1 + j) _ _ rfl (ho6.alloc _) _ 1 _ rfl (srcB l3) (n' + 1 + (j + 1)) (by omega) (by omega) (by have := hbl6.size; simp; omega) ?_
                   intro A7 c7 w7 ho7 hg7 ha7
                   have hbl7 : Below w.heap.size w w7 := (hbl6.alloc hbl6.size _).grown hg7 (by have := hbl6.size; simp; omega) (fun k hk => ho6.base_le hk)
                   have g7 := (g6.alloc (.cells #[.int .u8 ((fn : Int) / 2 ^ (8 * q) % 256)] 5)).grown hg7 (g6_ne ho6 g6 (by decide))))
              rw [List.append_assoc, HN.out] at ho7
              clear l3
              go_roundw
              case rel => exact ⟨j + 1, A7, c7, by omega, by go_num, rfl, ho7, g7, hbl7⟩
              case measure => simp [intOf]
            · have hj9 : j = 8 := by omega
              subst hj9
              have g60 := g6.cell 2
              simp only [List.getElem?_toArray, List.getElem?_cons_zero, List.getElem?_cons_succ] at g60
              have ho8 := long_done ho6
              clear ho6
              go_wp2_with (first
                | (at_builtin
                   refine wpl_appB (o := ⟨some 55, _, _, _, _, _⟩) rfl (.tmp 52) (.tmp 54) 22 rfl w.heap.size _ (n' + 1 + 8) _ _ rfl ho8 _ fn body rfl (srcB (hbody.below hbl6)) ((n' + 1 + 8) + fn) rfl (by omega) (by have := hbl6.size; omega) ?_
                   intro A5 c5 w5 ho5 hg5 ha5
                   have hbl5 : Below w.heap.size w w5 := hbl6.grown hg5 hbl6.size (fun k hk => ho8.base_le hk)))
              have hd := Lib.hid (enc_snoc hf'.out (headF_long (c := false) (m := true) hs) ho5)
              clear ho8 ho5 g6 g60 hf'
              go_roundw
              case rel => exact ⟨k + 1, A5, n' + 1 + 8 + fn, c5, by omega, by go_num, rfl, by omega, hd.out, hbl5⟩
              case measure => simp [intOf]; omega
        · have l1 : RB ((wr.alloc (.cells #[.bool true, .bool false, .slice fA fn fc] 73)).alloc (.cells #[.int .u8 6] 5)) (wr.heap.size + 1 + 1) (some ⟨wr.heap.size + 1, 0, none⟩) 1 [longU true false] := by
            have := litOne8 (wr.alloc (.cells #[.bool true, .bool false, .slice fA fn fc] 73)) (longU true false)
            rw [World.size_alloc, World.size_alloc] at this
            exact this
          go_wp2_with (first
          | (at_builtin
             refine wpl_appB (o := ⟨some 38, _, _, _, _, _⟩) rfl (.tmp 34) (.tmp 37) 22 rfl w.heap.size _ n' _ _ rfl ((ho.alloc _).alloc _) _ 1 _ rfl (srcB l1) (n' + 1) rfl (by omega) (by have := hbl2.size; simp at this ⊢; omega) ?_
             intro A4 c4 w4 ho4 hg4 ha4
             have hbl4 : Below w.heap.size w w4 := (hbl2.alloc hbl2.size _).grown hg4 (by have := hbl2.size; simp at this ⊢; omega) (fun k hk => ho.base_le hk)
             have g4 := (g0.alloc _).grown hg4 (ho.row_ne (Nat.le_refl _))))
          clear l1 h1 h2 h3
          go_loopw [3, 8] (fun v i wr2 => ∃ (j : Nat) (A6 : Option Addr) (c6 : Nat), j ≤ 8 ∧ i = .int .i64 (7 - (j : Int)) ∧ v = .slice A6 (n' + 1 + j) c6 ∧ OB wr2 w.heap.size A6 (n' + 1 + j) c6 (encs (fs.take k) ++ [longU true false] ++ (be8 fn).take j) ∧ Blk wr2 wr.heap.size 73 #[.bool true, .bool false, .slice fA fn fc] ∧ Below w.heap.size w wr2) (fun _ i _ => (intOf i + 1).toNat)
          case atStart => exact ⟨0, A4, c4, by omega, rfl, rfl, by simpa using ho4, g4, hbl4⟩
          case round =>
            obtain ⟨j, A6, c6, hj, rfl, rfl, ho6, g6, hbl6⟩ := hrel
            clear ho4 g4 hg4 ha4 hbl4 g0 ho
            by_cases hj8 : j < 8
            · obtain ⟨q, hq⟩ : ∃ q : Nat, (7 - (j : Int)) = (q : Int) := ⟨7 - j, by omega⟩
              rw [hq]
              have hq7 : q ≤ 7 := by omega
              have hx := byteInt fn q
              have l3 : RB (wr.alloc (.cells #[.int .u8 ((fn : Int) / 2 ^ (8 * q) % 256)] 5)) (wr.alloc (.cells #[.int .u8 ((fn : Int) / 2 ^ (8 * q) % 256)] 5)).heap.size (some ⟨wr.heap.size, 0, none⟩) 1 [UInt8.ofNat (fn / 2 ^ (8 * q))] := by
                rw [← hx]
                exact litOne8 wr _
              have HX := Lib.hid hx
              have HN := Lib.hid (be8_snoc hfn hj8 hq)
              clear hx
              go_wp2_with (first
                | (at_builtin
                   refine wpl_appB (o := ⟨some 51, _, _, _, _, _⟩) rfl (.tmp 43) (.tmp 50) 22 rfl w.heap.size _ (n' + 1 + j) _ _ rfl (ho6.alloc _) _ 1 _ rfl (srcB l3) (n' + 1 + (j + 1)) (by omega) (by omega) (by have := hbl6.size; simp; omega) ?_
                   intro A7 c7 w7 ho7 hg7 ha7
                   have hbl7 : Below w.heap.size w w7 := (hbl6.alloc hbl6.size _).grown hg7 (by have := hbl6.size; simp; omega) (fun k hk => ho6.base_le hk)
                   have g7 := (g6.alloc (.cells #[.int .u8 ((fn : Int) / 2 ^ (8 * q) % 256)] 5)).grown hg7 (g6_ne ho6 g6 (by decide))))
              rw [List.append_assoc, HN.out] at ho7
              clear l3
              go_roundw
              case rel => exact ⟨j + 1, A7, c7, by omega, by go_num, rfl, ho7, g7, hbl7⟩
              case measure => simp [intOf]
            · have hj9 : j = 8 := by omega
              subst hj9
              have g60 := g6.cell 2
              simp only [List.getElem?_toArray, List.getElem?_cons_zero, List.getElem?_cons_succ] at g60
              have ho8 := long_done ho6
              clear ho6
              go_wp2_with (first
                | (at_builtin
                   refine wpl_appB (o := ⟨some 55, _, _, _, _, _⟩) rfl (.tmp 52) (.tmp 54) 22 rfl w.heap.size _ (n' + 1 + 8) _ _ rfl ho8 _ fn body rfl (srcB (hbody.below hbl6)) ((n' + 1 + 8) + fn) rfl (by omega) (by have := hbl6.size; omega) ?_
                   intro A5 c5 w5 ho5 hg5 ha5
                   have hbl5 : Below w.heap.size w w5 := hbl6.grown hg5 hbl6.size (fun k hk => ho8.base_le hk)))
              have hd := Lib.hid (enc_snoc hf'.out (headF_long (c := true) (m := false) hs) ho5)
              clear ho8 ho5 g6 g60 hf'
              go_roundw
              case rel => exact ⟨k + 1, A5, n' + 1 + 8 + fn, c5, by omega, by go_num, rfl, by omega, hd.out, hbl5⟩
              case measure => simp [intOf]; omega
        · have l1 : RB ((wr.alloc (.cells #[.bool true, .bool true, .slice fA fn fc] 73)).alloc (.cells #[.int .u8 7] 5)) (wr.heap.size + 1 + 1) (some ⟨wr.heap.size + 1, 0, none⟩) 1 [longU true true] := by
            have := litOne8 (wr.alloc (.cells #[.bool true, .bool true, .slice fA fn fc] 73)) (longU true true)
            rw [World.size_alloc, World.size_alloc] at this
            exact this
          go_wp2_with (first
          | (at_builtin
             refine wpl_appB (o := ⟨some 38, _, _, _, _, _⟩) rfl (.tmp 34) (.tmp 37) 22 rfl w.heap.size _ n' _ _ rfl ((ho.alloc _).alloc _) _ 1 _ rfl (srcB l1) (n' + 1) rfl (by omega) (by have := hbl2.size; simp at this ⊢; omega) ?_
             intro A4 c4 w4 ho4 hg4 ha4
             have hbl4 : Below w.heap.size w w4 := (hbl2.alloc hbl2.size _).grown hg4 (by have := hbl2.size; simp at this ⊢; omega) (fun k hk => ho.base_le hk)
             have g4 := (g0.alloc _).grown hg4 (ho.row_ne (Nat.le_refl _))))
          clear l1 h1 h2 h3
          go_loopw [3, 8] (fun v i wr2 => ∃ (j : Nat) (A6 : Option Addr) (c6 : Nat), j ≤ 8 ∧ i = .int .i64 (7 - (j : Int)) ∧ v = .slice A6 (n' + 1 + j) c6 ∧ OB wr2 w.heap.size A6 (n' + 1 + j) c6 (encs (fs.take k) ++ [longU true true] ++ (be8 fn).take j) ∧ Blk wr2 wr.heap.size 73 #[.bool true, .bool true, .slice fA fn fc] ∧ Below w.heap.size w wr2) (fun _ i _ => (intOf i + 1).toNat)
          case atStart => exact ⟨0, A4, c4, by omega, rfl, rfl, by simpa using ho4, g4, hbl4⟩
          case round =>
            obtain ⟨j, A6, c6, hj, rfl, rfl, ho6, g6, hbl6⟩ := hrel
            clear ho4 g4 hg4 ha4 hbl4 g0 ho
            by_cases hj8 : j < 8
            · obtain ⟨q, hq⟩ : ∃ q : Nat, (7 - (j : Int)) = (q : Int) := ⟨7 - j, by omega⟩
              rw [hq]
              have hq7 : q ≤ 7 := by omega
              have hx := byteInt fn q
              have l3 : RB (wr.alloc (.cells #[.int .u8 ((fn : Int) / 2 ^ (8 * q) % 256)] 5)) (wr.alloc (.cells #[.int .u8 ((fn : Int) / 2 ^ (8 * q) % 256)] 5)).heap.size (some ⟨wr.heap.size, 0, none⟩) 1 [UInt8.ofNat (fn / 2 ^ (8 * q))] := by
                rw [← hx]
                exact litOne8 wr _
              have HX := Lib.hid hx
              have HN := Lib.hid (be8_snoc hfn hj8 hq)
              clear hx
              go_wp2_with (first
                | (at_builtin
                   refine wpl_appB (o := ⟨some 51, _, _, _, _, _⟩) rfl (.tmp 43) (.tmp 50) 22 rfl w.heap.size _ (n' + 1 + j) _ _ rfl (ho6.alloc _) _ 1 _ rfl (srcB l3) (n' + 1 + (j + 1)) (by omega) (by omega) (by have := hbl6.size; simp; omega) ?_
                   intro A7 c7 w7 ho7 hg7 ha7
                   have hbl7 : Below w.heap.size w w7 := (hbl6.alloc hbl6.size _).grown hg7 (by have := hbl6.size; simp; omega) (fun k hk => ho6.base_le hk)
                   have g7 := (g6.alloc (.cells #[.int .u8 ((fn : Int) / 2 ^ (8 * q) % 256)] 5)).grown hg7 (g6_ne ho6 g6 (by decide))))
              rw [List.append_assoc, HN.out] at ho7
              clear l3
              go_roundw
              case rel => exact ⟨j + 1, A7, c7, by omega, by go_num, rfl, ho7, g7, hbl7⟩
              case measure => simp [intOf]
            · have hj9 : j = 8 := by omega
              subst hj9
              have g60 := g6.cell 2
              simp only [List.getElem?_toArray, List.getElem?_cons_zero, List.getElem?_cons_succ] at g60
              have ho8 := long_done ho6
              clear ho6
              go_wp2_with (first
                | (at_builtin
                   refine wpl_appB (o := ⟨some 55, _, _, _, _, _⟩) rfl (.tmp 52) (.tmp 54) 22 rfl w.heap.size _ (n' + 1 + 8) _ _ rfl ho8 _ fn body rfl (srcB (hbody.below hbl6)) ((n' + 1 + 8) + fn) rfl (by omega) (by have := hbl6.size; omega) ?_
                   intro A5 c5 w5 ho5 hg5 ha5
                   have hbl5 : Below w.heap.size w w5 := hbl6.grown hg5 hbl6.size (fun k hk => ho8.base_le hk)))
              have hd := Lib.hid (enc_snoc hf'.out (headF_long (c := true) (m := true) hs) ho5)
              clear ho8 ho5 g6 g60 hf'
              go_roundw
              case rel => exact ⟨k + 1, A5, n' + 1 + 8 + fn, c5, by omega, by go_num, rfl, by omega, hd.out, hbl5⟩
              case measure => simp [intOf]; omega
    · have hkn' : k = n := by omega
      rw [List.take_of_length_le (by rw [hr.len]; omega)] at ho
      subst hkn'
      go_wp2_with fail
      go_ret
      exact ⟨A', n', c', rfl, ho, hbl⟩
end Go.Proofs.Ytkpcepdalegmmaa
