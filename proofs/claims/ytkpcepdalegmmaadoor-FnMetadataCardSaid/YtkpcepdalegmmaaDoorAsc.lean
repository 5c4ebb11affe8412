/- Properties: impl.ascii, impl.named. -/
import Derived.Test.YtkpcepdalegmmaaDoorSlice
import Derived.Test.YtkpcepdalegmmaaDoorApp
import Derived.Laws.Bits64b
namespace Go.Proofs.YtkpcepdalegmmaaDoor
open Go.RowKit

def asciiB (c : UInt8) : Bool := decide (c.toNat < 128)
theorem all_snocB {l : List UInt8} {k : Nat} {p : UInt8 → Bool} (hk : k < l.length) (h : (l.take k).all p = true) (hp : p (l.getD k 0) = true) : (l.take (k + 1)).all p = true := by
  rw [List.getD_eq_getElem?_getD, List.getElem?_eq_getElem hk] at hp
  rw [List.take_succ_eq_append_getElem hk, List.all_append, h]
  simpa using hp
theorem all_noB {l : List UInt8} {k : Nat} {p : UInt8 → Bool} (hk : k < l.length) (hp : p (l.getD k 0) = false) : l.all p = false := by
  rw [List.getD_eq_getElem?_getD, List.getElem?_eq_getElem hk] at hp
  rw [List.all_eq_false]
  exact ⟨l[k], List.getElem_mem hk, by simpa using hp⟩

set_option maxRecDepth 100000 in
theorem ascii_any (A : Option Addr) (n c B : Nat) (l : List UInt8) (w : World) (hr : RB w B A n l) (hn : n ≤ 2147483648) :
    Calls Tryd.prog 24 #[.slice A n c] w fun e w' => e = .returned (.bool (l.all asciiB)) ∧ w = w' := by
  have hl := Lib.hid hr.len
  go_enter Tryd.func24, Tryd.ntmps24
  go_wp2_with fail
  go_loop [7] (fun i => ∃ k : Nat, k ≤ n ∧ i = .int .i64 k ∧ Hid ((l.take k).all asciiB = true)) (fun i => n - (intOf i).toNat)
  case atStart => exact ⟨0, Nat.zero_le _, rfl, rfl⟩
  case round =>
    obtain ⟨k, hk, rfl, hall⟩ := hrel
    by_cases hlt : k < n
    · obtain ⟨ad, e0, _, hc⟩ := hr.cell hlt
      subst e0
      have hkl := Lib.hid (show k < l.length by rw [hl.out]; exact hlt)
      obtain ⟨x, hx⟩ : ∃ x, x = l.getD k 0 := ⟨_, rfl⟩
      rw [← hx] at hc
      have HX := Lib.hid hx
      clear hx
      have hlx := x.toNat_lt
      by_cases h128 : x.toNat < 128
      · have hyes := Lib.hid (all_snocB (p := asciiB) hkl.out hall.out (by rw [← HX.out]; exact decide_eq_true h128))
        go_wp2_with fail
        go_round
        case rel => exact ⟨k + 1, by omega, by go_num, hyes⟩
        case measure => simp [intOf]; omega
      · have hno := Lib.hid (all_noB (p := asciiB) hkl.out (by rw [← HX.out]; exact decide_eq_false h128))
        go_wp2_with fail
        go_ret
        exact ⟨congrArg (fun b => Ending.returned (.bool b)) hno.out.symm, rfl⟩
    · have hkn : k = n := by omega
      have hyes := Lib.hid (show l.all asciiB = true by rw [← hall.out, List.take_of_length_le (by rw [hl.out]; omega)])
      subst hkn
      go_wp2_with fail
      go_ret
      exact ⟨congrArg (fun b => Ending.returned (.bool b)) hyes.out.symm, rfl⟩

theorem bits_or_i64_nat (a b : Nat) (ha : a < 4611686018427387904) (hb : b < 4611686018427387904) : bits .or .i64 (a : Int) (b : Int) = ((a ||| b : Nat) : Int) := by
  have hx : a ||| b < 2 ^ 62 := Nat.or_lt_two_pow (by omega) (by omega)
  have h1 : (BitVec.ofInt 64 (a : Int)).toNat = a := by
    rw [BitVec.ofInt_natCast, BitVec.toNat_ofNat]; exact Nat.mod_eq_of_lt (by omega)
  have h2 : (BitVec.ofInt 64 (b : Int)).toNat = b := by
    rw [BitVec.ofInt_natCast, BitVec.toNat_ofNat]; exact Nat.mod_eq_of_lt (by omega)
  show IntKind.i64.wrap ((BitVec.ofInt 64 (a : Int) ||| BitVec.ofInt 64 (b : Int)).toNat : Int) = _
  rw [BitVec.toNat_or, h1, h2, IntKind.wrap_i64]
  omega
theorem or_i64_byte (y x : Nat) (hx : x < 256) (hy : y < 16777216) : bits .or .i64 ((y : Int) * 256) (x : Int) = ((y * 256 + x : Nat) : Int) := by
  have e : (y : Int) * 256 = ((y * 256 : Nat) : Int) := by omega
  rw [e, bits_or_i64_nat (y * 256) x (by omega) (by omega), show y * 256 = 2 ^ 8 * y by omega, ← Nat.two_pow_add_eq_or_of_lt (by omega : x < 2 ^ 8)]

theorem or_i64_zero (x : Nat) (hx : x < 256) : bits .or .i64 0 (x : Int) = (x : Int) := by
  have h := or_i64_byte 0 x hx (by omega)
  simpa using h

/-- What 'named' answers. -/
def NamedPost (F : Prop) (w : World) (e : Ending) (w' : World) : Prop := (∃ b : Bool, e = .returned (.bool b) ∧ (b = false → F)) ∧ w = w'
/-- Where a name ends; what stands behind it. -/
def nameEnd (l : List UInt8) (at_ : Nat) : Nat := Nat.min (at_ + 1 + (l.getD at_ 0).toNat) l.length
def be4At (l : List UInt8) (e : Nat) : Nat := ((((l.getD e 0).toNat) * 256 + (l.getD (e + 1) 0).toNat) * 256 + (l.getD (e + 2) 0).toNat) * 256 + (l.getD (e + 3) 0).toNat

set_option maxRecDepth 100000 in
set_option maxHeartbeats 8000000 in
theorem named_any (R : Nat → Prop) (F : Prop) (A : Option Addr) (n c B : Nat) (l : List UInt8) (w : World) (hr : RB w B A n l) (hn : n ≤ 2147483647) (hc : n ≤ c) (h0 : R 0)
    (hstep : ∀ k, k < n → R k → (((l.drop (k + 1)).take (nameEnd l k - (k + 1))).all asciiB = true ∨ F) ∧ (nameEnd l k + 4 ≤ n → R (nameEnd l k + 4 + be4At l (nameEnd l k)))) :
    Calls Tryd.prog 18 #[.slice A n c] w (NamedPost F w) := by
  have hl := Lib.hid hr.len
  have HS := Lib.hid hstep
  clear hstep
  go_enter Tryd.func18, Tryd.ntmps18
  go_wp2_with fail
  go_loop [3] (fun i => ∃ k : Nat, k ≤ 8589934592 ∧ i = .int .i64 k ∧ Hid (R k)) (fun i => n - (intOf i).toNat)
  case atStart => exact ⟨0, by omega, rfl, Lib.hid h0⟩
  case round =>
    obtain ⟨k, hk, rfl, hR⟩ := hrel
    by_cases hlt : k < n
    · obtain ⟨hs1, hs2⟩ := HS.out k hlt hR.out
      obtain ⟨ad, e0, _, hcell⟩ := hr.cell hlt
      obtain ⟨x, hx⟩ : ∃ x, x = l.getD k 0 := ⟨_, rfl⟩
      have hlx := x.toNat_lt
      obtain ⟨en, hen⟩ : ∃ en, en = nameEnd l k := ⟨_, rfl⟩
      have hen2 : en = Nat.min (k + 1 + x.toNat) n := by rw [hen, hx, ← hl.out]; rfl
      have hbd : k + 1 ≤ en ∧ en ≤ n ∧ en ≤ k + 1 + x.toNat := by rw [hen2]; refine ⟨?_, Nat.min_le_right _ _, Nat.min_le_left _ _⟩; exact Nat.le_min.2 ⟨by omega, by omega⟩
      obtain ⟨b1, b2, b3⟩ := hbd
      rw [← hx] at hcell
      rw [← hen] at hs1 hs2
      have H1 := Lib.hid hs1
      have H2 := Lib.hid hs2
      have HX := Lib.hid (⟨hx, hen, hen2⟩ : _ ∧ _ ∧ _)
      clear hs1 hs2 hx hen hen2
      subst e0
      by_cases hmin : k + 1 + x.toNat ≤ n
      · have hen : en = k + 1 + x.toNat := by rw [HX.out.2.2]; exact Nat.min_eq_left hmin
        have e1 : (k : Int) + 1 + (x.toNat : Int) = (en : Int) := by omega
        clear hen
        have hsl : ∀ W, (Instr.slice 30 (.slice (some ad) n c) (some (.int .i64 ((k : Int) + 1))) (some (.int .i64 (en : Int))) none).run Tryd.prog W = .ok (.slice (cutA (some ad) c (k + 1)) (en - (k + 1)) (c - (k + 1))) W := fun W => run_slice_lh (some ad) n c W (k + 1) en b1 (by omega)
        have hra := hr.cutA_ (lo := k + 1) (hi := en) b1 b2 hc
        go_wp2_with fail
        refine (ascii_any (cutA (some ad) c (k + 1)) (en - (k + 1)) (c - (k + 1)) B _ w hra (by omega)).mono ?_
        rintro e w' ⟨rfl, rfl⟩
        clear hsl hra
        cases hA : (((l.drop (k + 1)).take (en - (k + 1))).all asciiB)
        · have hF : F := H1.out.resolve_left (by rw [hA]; decide)
          have HF := Lib.hid hF
          clear hA hF
          go_wp2_with fail
          go_ret
          exact ⟨⟨false, rfl, fun _ => HF.out⟩, rfl⟩
        · clear hA
          by_cases h4 : en + 4 ≤ n
          · have hcA : cutA (some ad) c en = some (ad.add en) := by
              unfold cutA
              rw [if_neg (by omega)]
              rfl
            have hsl2 : ∀ W, (Instr.slice 30 (.slice (some ad) n c) (some (.int .i64 (en : Int))) (some (.int .i64 ((en : Int) + 4))) none).run Tryd.prog W = .ok (.slice (some (ad.add en)) 4 (c - en)) W := fun W => by
              have h := run_slice_lh (some ad) n c W en (en + 4) (by omega) (by omega)
              rw [hcA, Nat.add_sub_cancel_left] at h
              exact h
            obtain ⟨_, ea, _, g0⟩ := hr.cell (k := en) (by omega)
            cases ea
            obtain ⟨_, ea, _, g1⟩ := hr.cell (k := en + 1) (by omega)
            cases ea
            obtain ⟨_, ea, _, g2⟩ := hr.cell (k := en + 2) (by omega)
            cases ea
            obtain ⟨_, ea, _, g3⟩ := hr.cell (k := en + 3) (by omega)
            cases ea
            obtain ⟨v4, hv4⟩ : ∃ v4, v4 = be4At l en := ⟨_, rfl⟩
            unfold be4At at hv4
            have HV := Lib.hid hv4
            generalize l.getD en 0 = y0 at g0 hv4
            generalize l.getD (en + 1) 0 = y1 at g1 hv4
            generalize l.getD (en + 2) 0 = y2 at g2 hv4
            generalize l.getD (en + 3) 0 = y3 at g3 hv4
            have z0 := y0.toNat_lt
            have z1 := y1.toNat_lt
            have z2 := y2.toNat_lt
            have z3 := y3.toNat_lt
            rw [add_off _ _ 1 (by decide)] at g1
            rw [add_off _ _ 2 (by decide)] at g2
            rw [add_off _ _ 3 (by decide)] at g3
            have o1 : bits .or .i64 0 (y0.toNat : Int) = (y0.toNat : Int) := or_i64_zero _ (by omega)
            obtain ⟨v2, hv2⟩ : ∃ v2, v2 = y0.toNat * 256 + y1.toNat := ⟨_, rfl⟩
            obtain ⟨v3, hv3⟩ : ∃ v3, v3 = v2 * 256 + y2.toNat := ⟨_, rfl⟩
            have o2 : bits .or .i64 ((y0.toNat : Int) * 256) (y1.toNat : Int) = (v2 : Int) := by rw [or_i64_byte _ _ (by omega) (by omega), hv2]
            have o3 : bits .or .i64 ((v2 : Int) * 256) (y2.toNat : Int) = (v3 : Int) := by rw [or_i64_byte _ _ (by omega) (by omega), hv3]
            have o4 : bits .or .i64 ((v3 : Int) * 256) (y3.toNat : Int) = (v4 : Int) := by rw [or_i64_byte _ _ (by omega) (by omega), hv4, ← hv2, ← hv3]
            have q2 : v2 < 65536 := by omega
            have q3 : v3 < 16777216 := by omega
            have q4 : v4 < 4294967296 := by omega
            have hR2 := Lib.hid (H2.out h4)
            clear hv2 hv3 hv4 hcA
            go_wp2_with fail
            refine wp_loop_rounds 5 ?_
            rw [rounds_succ]
            go_wp2_with fail
            rw [rounds_succ]
            go_wp2_with fail
            rw [rounds_succ]
            go_wp2_with fail
            rw [rounds_succ]
            go_wp2_with fail
            rw [rounds_succ]
            go_wp2_with fail
            go_round
            case rel => exact ⟨en + 4 + v4, by omega, by go_num, by rw [HV.out]; exact hR2⟩
            case measure => simp [intOf]; omega
          · clear H2
            go_wp2_with fail
            go_ret
            exact ⟨⟨true, rfl, fun h => by cases h⟩, rfl⟩
      · have hen : n = en := by rw [HX.out.2.2]; exact (Nat.min_eq_right (by omega)).symm
        subst hen
        have hsl : ∀ W, (Instr.slice 30 (.slice (some ad) n c) (some (.int .i64 ((k : Int) + 1))) (some (.int .i64 (n : Int))) none).run Tryd.prog W = .ok (.slice (cutA (some ad) c (k + 1)) (n - (k + 1)) (c - (k + 1))) W := fun W => run_slice_lh (some ad) n c W (k + 1) n b1 (by omega)
        have hra := hr.cutA_ (lo := k + 1) (hi := n) b1 b2 hc
        go_wp2_with fail
        refine (ascii_any (cutA (some ad) c (k + 1)) (n - (k + 1)) (c - (k + 1)) B _ w hra (by omega)).mono ?_
        rintro e w' ⟨rfl, rfl⟩
        clear hsl hra
        cases hA : (((l.drop (k + 1)).take (n - (k + 1))).all asciiB)
        · have hF : F := H1.out.resolve_left (by rw [hA]; decide)
          have HF := Lib.hid hF
          clear hA hF
          go_wp2_with fail
          go_ret
          exact ⟨⟨false, rfl, fun _ => HF.out⟩, rfl⟩
        · clear hA
          clear H2
          go_wp2_with fail
          go_ret
          exact ⟨⟨true, rfl, fun h => by cases h⟩, rfl⟩
    · go_wp2_with fail
      go_ret
      exact ⟨⟨true, rfl, fun h => by cases h⟩, rfl⟩
end Go.Proofs.YtkpcepdalegmmaaDoor
