/- laws.FnGreetingBroken: the walk. -/
import Derived.Test.YtkpcepdalegmmaaPg
import Derived.Test.YtkpcepdalegmmaaGreet4
import Derived.Test.YtkpcepdalegmmaaCmd4
import Derived.Test.YtkpcepdalegmmaaName
import Derived.Test.YtkpcepdalegmmaaStore
namespace Go.Proofs.Ytkpcepdalegmmaa
open Go.RowKit

theorem mech_parts {s : ByteArray} (h : mechOk s = true) : s.size ≤ 20 ∧ noZero s.data.toList := by
  simp only [mechOk, Bool.and_eq_true, decide_eq_true_eq] at h
  refine ⟨h.2, fun x hx e => ?_⟩
  have := List.all_eq_true.1 h.1.1 x hx
  subst e
  revert this
  decide

theorem answers_ok (b : UInt8) (m : List UInt8) (server : Bool) (hm : m.length ≤ 20) (hz : noZero m) (hb : b = 0 ∨ b = 1) : Answers 64 (greetM 3 b (padTo m) (boolB server)) 3 b ⟨m.toArray⟩ server true := by
  intro A c w hr
  refine (ZZParseGreeting_ok A c b m server w hr hm hz hb).mono ?_
  rintro e w' ⟨rfl, hbl⟩
  exact ⟨_, rfl, .inl ⟨rfl, rfl⟩, hbl⟩

theorem answers_no (n : Nat) (l : List UInt8) (hn : n ≤ 1099511627776) (hbad : n < 64 ∨ l.getD 0 0 ≠ 255 ∨ l.getD 9 0 ≠ 127) : Answers n l 0 0 ⟨#[]⟩ false false := by
  intro A c w hr
  refine (ZZParseGreeting_no A n c l w hr hn hbad).mono ?_
  rintro e w' ⟨⟨s, rfl⟩, hbl⟩
  exact ⟨_, rfl, .inr ⟨rfl, s, rfl⟩, hbl⟩

theorem gb_small (M : Int) (mech : ByteArray) (server : Bool) (N : Int) (x y : Value) (w : World) (hn : mech.size ≤ maxLen) (h : 2147483647 < mech.size) :
    Calls Try.prog 4 #[.int .i64 M, .string mech, .bool server, .int .i64 N, x, y] w fun e w' => e = .returned (.bool true) ∧ Below w.heap.size w w' := by
  unfold maxLen at hn
  go_enter Try.func4, Try.ntmps4
  go_wp2_with fail
  go_ret
  exact ⟨rfl, Below.refl _ _⟩

theorem gb_other (M : Int) (mech : ByteArray) (server : Bool) (N : Int) (x y : Value) (w : World) (hn : mech.size ≤ 2147483647) (h : M < 0 ∨ 1 < M ∨ mechOk mech = false) :
    Calls Try.prog 4 #[.int .i64 M, .string mech, .bool server, .int .i64 N, x, y] w fun e w' => e = .returned (.bool true) ∧ Below w.heap.size w w' := by
  by_cases h1 : M < 0
  · clear h
    go_enter Try.func4, Try.ntmps4
    go_wp2_with fail
    refine (works_any _).mono ?_
    rintro e w' ⟨rfl, hb⟩
    go_wp2_with fail
    go_ret
    exact ⟨rfl, hb⟩
  · by_cases h2 : 1 < M
    · clear h
      go_enter Try.func4, Try.ntmps4
      go_wp2_with fail
      refine (works_any _).mono ?_
      rintro e w' ⟨rfl, hb⟩
      go_wp2_with fail
      go_ret
      exact ⟨rfl, hb⟩
    · have h3 := Lib.hid ((h.resolve_left h1).resolve_left h2)
      clear h
      go_enter Try.func4, Try.ntmps4
      go_wp2_with fail
      refine (spec_Mechanism mech w hn).mono ?_
      rintro e w' ⟨rfl, rfl⟩
      rw [h3.out]
      go_wp2_with fail
      refine (works_any _).mono ?_
      rintro e w' ⟨rfl, hb⟩
      go_wp2_with fail
      go_ret
      exact ⟨rfl, hb⟩

theorem set_two {L : List UInt8} (h : L.length = 64) (x y : UInt8) : ((L.set 0 x).set 9 y).getD 0 0 = x ∧ ((L.set 0 x).set 9 y).getD 9 0 = y := by
  rw [List.getD_eq_getElem?_getD, List.getD_eq_getElem?_getD, List.getElem?_set_ne (by decide), List.getElem?_set_self (by omega), List.getElem?_set_self (by simp; omega)]
  exact ⟨rfl, rfl⟩

theorem bad_two {L : List UInt8} (h : L.length = 64) {x y : UInt8} (hg : ¬ (x = 255 ∧ y = 127)) : ((L.set 0 x).set 9 y).getD 0 0 ≠ 255 ∨ ((L.set 0 x).set 9 y).getD 9 0 ≠ 127 := by
  obtain ⟨e1, e2⟩ := set_two h x y
  rw [e1, e2]
  by_cases hx : x = 255
  · exact .inr fun e => hg ⟨hx, e⟩
  · exact .inl hx
theorem u8_nek {x k : UInt8} (h : x ≠ k) : ((x.toNat : Int) == (k.toNat : Int)) = false := by
  rw [beq_eq_false_iff_ne]
  exact fun e => h (UInt8.toNat_inj.1 (Int.ofNat.inj e))
theorem cell_of_rb {w : World} {B n g : Nat} {l : List UInt8} (h : RB w B (some ⟨g, 0, none⟩) n l) {k : Nat} (hk : k < n) : w.cell? ⟨g, k, none⟩ = some (.int .u8 ((l.getD k 0).toNat : Int)) := by
  obtain ⟨ad, e, _, hc⟩ := h.cell hk
  obtain rfl := Option.some.inj e
  rw [← hc]
  congr 1
  unfold Addr.add
  by_cases h0 : k = 0
  · subst h0; rfl
  · simp [h0]

set_option maxRecDepth 100000 in
theorem gb_main (b : UInt8) (hb1 : b.toNat ≤ 1) (mech : ByteArray) (server : Bool) (N : Int) (x y : UInt8) (w : World) (hn : mech.size ≤ 20) (hk : mechOk mech = true) :
    Calls Try.prog 4 #[.int .i64 b.toNat, .string mech, .bool server, .int .i64 N, .int .u8 x.toNat, .int .u8 y.toNat] w fun e w' => e = .returned (.bool true) ∧ Below w.heap.size w w' := by
  have h3 := Lib.hid hk
  clear hk
  go_enter Try.func4, Try.ntmps4
  go_wp2_with fail
  refine (spec_Mechanism mech w (by omega)).mono ?_
  rintro e w' ⟨rfl, rfl⟩
  rw [h3.out]
  go_wp2_with fail
  refine (spec_Greeting 3 b mech server w hn).mono ?_
  rintro e w1 ⟨A1, c1, rfl, ho1, hbl1⟩
  have hL := Lib.hid ho1.len
  generalize greetM 3 b (padTo mech.data.toList) (boolB server) = L at *
  have hcap := ho1.cap.1
  by_cases g0 : 0 ≤ N
  · by_cases g1 : N < 64
    · obtain ⟨k, rfl⟩ := Int.eq_ofNat_of_zero_le g0
      have cut := fun W => run_slice_hi A1 64 c1 W k (by omega)
      have hrk := ho1.rb.take (m := k) (by omega)
      go_wp2_with fail
      refine (ParseGreeting A1 k c1 _ 0 0 ⟨#[]⟩ false false (answers_no k _ (by omega) (.inl (by omega))) (fun _ => ⟨rfl, rfl, rfl, rfl⟩) w1 hrk (by omega)).mono ?_
      rintro e w2 ⟨rfl, hb2⟩
      have ho2 := ho1.kept (grownBy_of_below hb2 none) (by simp)
      have hb12 := below_seq hbl1 hb2 hbl1.size
      clear cut hrk ho1 hbl1 hb2
      by_cases hgood : x = 255 ∧ y = 127
      · obtain ⟨rfl, rfl⟩ := hgood
        go_wp2_with fail
        refine (works_any _).mono ?_
        rintro e w' ⟨rfl, hb⟩
        go_wp2_with fail
        go_ret
        exact ⟨rfl, below_seq hb12 hb hb12.size⟩
      · obtain ⟨g, cur, rfl, hg, hblk, hset⟩ := ho2.row (by omega)
        obtain ⟨g', cur', hA', hg', hblk', hset'⟩ := (hset 0 x (by omega)).row (by omega)
        obtain rfl : g = g' := by simpa using hA'
        have ho4 := hset' 9 y (by omega)
        have q0 := cell_of_rb ho2.rb (k := 0) (by omega)
        have q9 := cell_of_rb ho2.rb (k := 9) (by omega)
        have f0 := hblk.frozen 0
        have f9 := hblk.frozen 9
        have hb124 := below_setN (o := 9) (below_setN (o := 0) hb12 hg (.int .u8 x.toNat)) hg (.int .u8 y.toNat)
        have HX := Lib.hid (bad_two hL.out hgood)
        clear hset hset' hA' hg' hblk hblk' ho2
        by_cases hx : x = 255
        · have hy : y ≠ 127 := fun e => hgood ⟨hx, e⟩
          have e9 : ((y.toNat : Int) == 127) = false := u8_nek hy
          subst hx
          clear hy hgood
          go_wp2_with fail
          refine (ParseGreeting _ 64 c1 _ 0 0 ⟨#[]⟩ false false (answers_no 64 _ (by decide) (.inr (HX.out))) (fun _ => ⟨rfl, rfl, rfl, rfl⟩) _ ho4.rb (by decide)).mono ?_
          rintro e w3 ⟨rfl, hb3⟩
          have hb123 := below_seq hb124 hb3 hb124.size
          go_wp2_with fail
          refine (works_any _).mono ?_
          rintro e w' ⟨rfl, hb⟩
          go_wp2_with fail
          go_ret
          exact ⟨rfl, below_seq hb123 hb hb123.size⟩
        · have e0 : ((x.toNat : Int) == 255) = false := u8_nek hx
          clear hx hgood
          go_wp2_with fail
          refine (ParseGreeting _ 64 c1 _ 0 0 ⟨#[]⟩ false false (answers_no 64 _ (by decide) (.inr (HX.out))) (fun _ => ⟨rfl, rfl, rfl, rfl⟩) _ ho4.rb (by decide)).mono ?_
          rintro e w3 ⟨rfl, hb3⟩
          have hb123 := below_seq hb124 hb3 hb124.size
          go_wp2_with fail
          refine (works_any _).mono ?_
          rintro e w' ⟨rfl, hb⟩
          go_wp2_with fail
          go_ret
          exact ⟨rfl, below_seq hb123 hb hb123.size⟩
    · have ho2 := ho1
      have hb12 := hbl1
      clear ho1 hbl1
      by_cases hgood : x = 255 ∧ y = 127
      · obtain ⟨rfl, rfl⟩ := hgood
        go_wp2_with fail
        refine (works_any _).mono ?_
        rintro e w' ⟨rfl, hb⟩
        go_wp2_with fail
        go_ret
        exact ⟨rfl, below_seq hb12 hb hb12.size⟩
      · obtain ⟨g, cur, rfl, hg, hblk, hset⟩ := ho2.row (by omega)
        obtain ⟨g', cur', hA', hg', hblk', hset'⟩ := (hset 0 x (by omega)).row (by omega)
        obtain rfl : g = g' := by simpa using hA'
        have ho4 := hset' 9 y (by omega)
        have q0 := cell_of_rb ho2.rb (k := 0) (by omega)
        have q9 := cell_of_rb ho2.rb (k := 9) (by omega)
        have f0 := hblk.frozen 0
        have f9 := hblk.frozen 9
        have hb124 := below_setN (o := 9) (below_setN (o := 0) hb12 hg (.int .u8 x.toNat)) hg (.int .u8 y.toNat)
        have HX := Lib.hid (bad_two hL.out hgood)
        clear hset hset' hA' hg' hblk hblk' ho2
        by_cases hx : x = 255
        · have hy : y ≠ 127 := fun e => hgood ⟨hx, e⟩
          have e9 : ((y.toNat : Int) == 127) = false := u8_nek hy
          subst hx
          clear hy hgood
          go_wp2_with fail
          refine (ParseGreeting _ 64 c1 _ 0 0 ⟨#[]⟩ false false (answers_no 64 _ (by decide) (.inr (HX.out))) (fun _ => ⟨rfl, rfl, rfl, rfl⟩) _ ho4.rb (by decide)).mono ?_
          rintro e w3 ⟨rfl, hb3⟩
          have hb123 := below_seq hb124 hb3 hb124.size
          go_wp2_with fail
          refine (works_any _).mono ?_
          rintro e w' ⟨rfl, hb⟩
          go_wp2_with fail
          go_ret
          exact ⟨rfl, below_seq hb123 hb hb123.size⟩
        · have e0 : ((x.toNat : Int) == 255) = false := u8_nek hx
          clear hx hgood
          go_wp2_with fail
          refine (ParseGreeting _ 64 c1 _ 0 0 ⟨#[]⟩ false false (answers_no 64 _ (by decide) (.inr (HX.out))) (fun _ => ⟨rfl, rfl, rfl, rfl⟩) _ ho4.rb (by decide)).mono ?_
          rintro e w3 ⟨rfl, hb3⟩
          have hb123 := below_seq hb124 hb3 hb124.size
          go_wp2_with fail
          refine (works_any _).mono ?_
          rintro e w' ⟨rfl, hb⟩
          go_wp2_with fail
          go_ret
          exact ⟨rfl, below_seq hb123 hb hb123.size⟩
  · have ho2 := ho1
    have hb12 := hbl1
    clear ho1 hbl1
    by_cases hgood : x = 255 ∧ y = 127
    · obtain ⟨rfl, rfl⟩ := hgood
      go_wp2_with fail
      refine (works_any _).mono ?_
      rintro e w' ⟨rfl, hb⟩
      go_wp2_with fail
      go_ret
      exact ⟨rfl, below_seq hb12 hb hb12.size⟩
    · obtain ⟨g, cur, rfl, hg, hblk, hset⟩ := ho2.row (by omega)
      obtain ⟨g', cur', hA', hg', hblk', hset'⟩ := (hset 0 x (by omega)).row (by omega)
      obtain rfl : g = g' := by simpa using hA'
      have ho4 := hset' 9 y (by omega)
      have q0 := cell_of_rb ho2.rb (k := 0) (by omega)
      have q9 := cell_of_rb ho2.rb (k := 9) (by omega)
      have f0 := hblk.frozen 0
      have f9 := hblk.frozen 9
      have hb124 := below_setN (o := 9) (below_setN (o := 0) hb12 hg (.int .u8 x.toNat)) hg (.int .u8 y.toNat)
      have HX := Lib.hid (bad_two hL.out hgood)
      clear hset hset' hA' hg' hblk hblk' ho2
      by_cases hx : x = 255
      · have hy : y ≠ 127 := fun e => hgood ⟨hx, e⟩
        have e9 : ((y.toNat : Int) == 127) = false := u8_nek hy
        subst hx
        clear hy hgood
        go_wp2_with fail
        refine (ParseGreeting _ 64 c1 _ 0 0 ⟨#[]⟩ false false (answers_no 64 _ (by decide) (.inr (HX.out))) (fun _ => ⟨rfl, rfl, rfl, rfl⟩) _ ho4.rb (by decide)).mono ?_
        rintro e w3 ⟨rfl, hb3⟩
        have hb123 := below_seq hb124 hb3 hb124.size
        go_wp2_with fail
        refine (works_any _).mono ?_
        rintro e w' ⟨rfl, hb⟩
        go_wp2_with fail
        go_ret
        exact ⟨rfl, below_seq hb123 hb hb123.size⟩
      · have e0 : ((x.toNat : Int) == 255) = false := u8_nek hx
        clear hx hgood
        go_wp2_with fail
        refine (ParseGreeting _ 64 c1 _ 0 0 ⟨#[]⟩ false false (answers_no 64 _ (by decide) (.inr (HX.out))) (fun _ => ⟨rfl, rfl, rfl, rfl⟩) _ ho4.rb (by decide)).mono ?_
        rintro e w3 ⟨rfl, hb3⟩
        have hb123 := below_seq hb124 hb3 hb124.size
        go_wp2_with fail
        refine (works_any _).mono ?_
        rintro e w' ⟨rfl, hb⟩
        go_wp2_with fail
        go_ret
        exact ⟨rfl, below_seq hb123 hb hb123.size⟩

theorem FnGreetingBroken_any (M : Int) (mech : ByteArray) (server : Bool) (N : Int) (x y : UInt8) (w : World) (hn : mech.size ≤ maxLen) :
    Calls Try.prog 4 #[.int .i64 M, .string mech, .bool server, .int .i64 N, .int .u8 x.toNat, .int .u8 y.toNat] w fun e w' => e = .returned (.bool true) ∧ Below w.heap.size w w' := by
  by_cases h1 : 2147483647 < mech.size
  · exact gb_small M mech server N _ _ w hn h1
  · by_cases h2 : M < 0 ∨ 1 < M ∨ mechOk mech = false
    · exact gb_other M mech server N _ _ w (by omega) h2
    · have hk : mechOk mech = true := Bool.of_not_eq_false fun e => h2 (.inr (.inr e))
      have e : M = ((UInt8.ofNat M.toNat).toNat : Int) := by
        have : M.toNat ≤ 1 := by omega
        have h3 : (UInt8.ofNat M.toNat).toNat = M.toNat := by simp; omega
        omega
      have hle : (UInt8.ofNat M.toNat).toNat ≤ 1 := by
        have h3 : (UInt8.ofNat M.toNat).toNat = M.toNat := by simp; omega
        omega
      rw [e]
      exact gb_main _ hle mech server N x y w (mech_parts hk).1 hk
end Go.Proofs.Ytkpcepdalegmmaa
