/- Properties: spec.Metadata. -/
import Derived.Test.YtkpcepdalegmmaaDoorKv1
import Derived.Test.YtkpcepdalegmmaaDoorApart
import Derived.Deep.RegionHeld3
namespace Go.Proofs.YtkpcepdalegmmaaDoor
open Go.RowKit

def be4 (n : Nat) : List UInt8 := [UInt8.ofNat (n / 16777216), UInt8.ofNat (n / 65536), UInt8.ofNat (n / 256), UInt8.ofNat n]
def encKV (f : Kv) : List UInt8 := (UInt8.ofNat f.key.size :: f.key.data.toList) ++ (be4 f.val.size ++ f.val.data.toList)
def encKVs (fs : List Kv) : List UInt8 := fs.flatMap encKV
theorem encKV_length (f : Kv) : (encKV f).length = f.key.size + f.val.size + 5 := by
  have h1 : f.key.data.toList.length = f.key.size := by simp
  have h2 : f.val.data.toList.length = f.val.size := by simp
  simp only [encKV, be4, List.length_append, List.length_cons, List.length_nil, h1, h2]
  omega

theorem u8w (n : Nat) : IntKind.u8.wrap (n : Int) = ((UInt8.ofNat n).toNat : Int) := by
  have : (UInt8.ofNat n).toNat = n % 256 := by simp
  rw [this, IntKind.wrap_u8]
  omega
theorem lit4_cells (v : Nat) : (#[Value.int .u8 (IntKind.u8.wrap ((v : Int) / 16777216)), .int .u8 (IntKind.u8.wrap ((v : Int) / 65536)), .int .u8 (IntKind.u8.wrap ((v : Int) / 256)), .int .u8 (IntKind.u8.wrap (v : Int))]).toList = bv (be4 v) := by
  have e1 := u8w (v / 16777216)
  have e2 := u8w (v / 65536)
  have e3 := u8w (v / 256)
  have e4 := u8w v
  simp only [Int.natCast_ediv] at e1 e2 e3
  simp only [bv, be4, List.map_cons, List.map_nil, ← e1, ← e2, ← e3, ← e4]
  rfl

theorem kvEnc_snoc {fs : List Kv} {k : Nat} {key val : ByteArray} (h : fs[k]? = some ⟨key, val⟩) : encKVs (fs.take (k + 1)) = encKVs (fs.take k) ++ [UInt8.ofNat key.size] ++ key.data.toList ++ be4 val.size ++ val.data.toList := by
  obtain ⟨h1, h2⟩ := List.getElem?_eq_some_iff.1 h
  rw [List.take_succ_eq_append_getElem h1, h2]
  simp [encKVs, encKV]

/-- A row being written, beside a property of two cells in block H. -/
structure MdSt (w0 : World) (H : Nat) (key val : ByteArray) (base : Nat) (A : Option Addr) (n c : Nat) (l : List UInt8) (V : World) : Prop where
  own : OB V base A n c l
  s : V.cell? ⟨H, 0, none⟩ = some (.string key) ∧ V.cell? ⟨H, 1, none⟩ = some (.string val)
  hH : H < V.heap.size
  hb : base ≤ V.heap.size
  ne : some H ≠ A.map (·.block)
  bl : Below base w0 V
/-- New bytes in block D, to be appended. -/
structure Lit4 (A : Option Addr) (D n : Nat) (l : List UInt8) (V : World) : Prop where
  rb : RB V V.heap.size (some ⟨D, 0, none⟩) n l
  lt : D < V.heap.size
  ne : some D ≠ A.map (·.block)
section
variable {w0 : World} {H : Nat} {key val : ByteArray} {base : Nat} {A A2 : Option Addr} {n c n2 c2 D k : Nat} {l l2 x : List UInt8} {V w2 : World}
theorem MdSt.alloc (h : MdSt w0 H key val base A n c l V) (o : Obj) : MdSt w0 H key val base A n c l (V.alloc o) :=
  ⟨h.own.alloc o, ⟨(World.cell?_alloc_lt V o _ h.hH).trans h.s.1, (World.cell?_alloc_lt V o _ h.hH).trans h.s.2⟩, by have := h.hH; simp; omega, by have := h.hb; simp; omega, h.ne, h.bl.alloc h.hb o⟩
theorem MdSt.drew (h : MdSt w0 H key val base A n c l V) : MdSt w0 H key val base A n c l V.drew := ⟨h.own, h.s, h.hH, h.hb, h.ne, h.bl.drew⟩
theorem MdSt.step (h : MdSt w0 H key val base A n c l V) (ho : OB w2 base A2 n2 c2 l2) (hg : V.grownBy w2 (A.map (·.block))) (ha : A2 = A ∨ A2 = some ⟨V.heap.size, 0, none⟩) : MdSt w0 H key val base A2 n2 c2 l2 w2 := by
  have h1 := h.hH
  have h2 := hg.size
  have hbk := hg.block H h1 h.ne
  refine ⟨ho, ⟨(World.cell?_of_block hbk).trans h.s.1, (World.cell?_of_block hbk).trans h.s.2⟩, by omega, by have := h.hb; omega, ?_, h.bl.grown hg h.hb fun g e => h.own.base_le e⟩
  rcases ha with rfl | rfl
  · exact h.ne
  · simp; omega
theorem MdSt.fresh (h : MdSt w0 H key val base A n c l V) (cs : Array Value) (hcs : cs.toList = bv x) (hk : x.length = k) (hm : k ≤ maxLen) : Lit4 A V.heap.size k x (V.alloc (.cells cs 5)) := by
  refine ⟨(OB.lit V 0 (Nat.zero_le _) x cs hcs k hk hm).rb, by simp, fun e => ?_⟩
  cases A with
  | none => cases e
  | some ad =>
    have := (h.own.block rfl).2
    simp at e
    omega
theorem Lit4.alloc (h : Lit4 A D k x V) (o : Obj) : Lit4 A D k x (V.alloc o) := ⟨h.rb.new o, by have := h.lt; simp; omega, h.ne⟩
theorem Lit4.drew (h : Lit4 A D k x V) : Lit4 A D k x V.drew := ⟨h.rb, h.lt, h.ne⟩
theorem Lit4.step (h : Lit4 A D k x V) (hg : V.grownBy w2 (A.map (·.block))) (ha : A2 = A ∨ A2 = some ⟨V.heap.size, 0, none⟩) : Lit4 A2 D k x w2 := by
  have h1 := h.lt
  have h2 := hg.size
  refine ⟨⟨h.rb.1, fun h0 => ?_⟩, by omega, ?_⟩
  · obtain ⟨ad, e, hb, hc⟩ := h.rb.2 h0
    injection e with e
    subst e
    exact ⟨_, rfl, by simp only; omega, fun j u hu => (World.cell?_of_block (hg.block _ (by rw [block_of_add]; exact h1) (by rw [block_of_add]; exact h.ne))).trans (hc j u hu)⟩
  · rcases ha with rfl | rfl
    · exact h.ne
    · simp; omega
end

set_option maxRecDepth 100000 in
set_option maxHeartbeats 8000000 in
theorem spec_Metadata (A : Option Addr) (n c : Nat) (fs : List Kv) (w : World) (hr : KvS w w.heap.size A n fs) (hn : n ≤ 10) (hb : ∀ f ∈ fs, f.key.size ≤ 100 ∧ f.val.size ≤ 300) :
    Calls Tryd.prog 9 #[.slice A n c] w fun e w' => ∃ A' m c', e = .returned (.slice A' m c') ∧ OB w' w.heap.size A' m c' (encKVs fs) ∧ Below w.heap.size w w' := by
  have hl := Lib.hid hr.len
  have HB := Lib.hid hb
  clear hb
  go_enter Tryd.func9, Tryd.ntmps9
  go_wp2_with fail
  go_loopw [3, 9] (fun v i wr => ∃ (k m : Nat) (A' : Option Addr) (c' : Nat), k ≤ n ∧ i = .int .i64 k ∧ v = .slice A' m c' ∧ m ≤ 405 * k ∧ Hid (OB wr w.heap.size A' m c' (encKVs (fs.take k))) ∧ Below w.heap.size w wr) (fun _ i _ => n - (intOf i).toNat)
  case atStart => exact ⟨0, 0, none, 0, Nat.zero_le _, rfl, rfl, by omega, Lib.hid (OB.nil_ _ _), Below.refl _ _⟩
  case round =>
    obtain ⟨k, m, A', c', hk, rfl, rfl, hm, ho, hbl⟩ := hrel
    by_cases hkn : k < n
    · have hrw := hr.after hbl
      obtain ⟨ad, f, e0, hadb, hf, h1, h2⟩ := hrw.at_ hkn
      have hbf := HB.out f (List.mem_of_getElem? hf)
      have hf' := Lib.hid hf
      have hks := hbf.1
      have hvs := hbf.2
      obtain ⟨key, val⟩ := f
      simp only at h1 h2 hks hvs
      subst e0
      have hH := Blk.new wr 38 #[.string key, .string val]
      have q0 := hH.cell 0
      have q1 := hH.cell 1
      simp only [List.getElem?_toArray, List.getElem?_cons_zero, List.getElem?_cons_succ] at q0 q1
      clear hf hbf hrw
      go_wp2_with fail
      have M0 : MdSt w wr.heap.size key val w.heap.size A' m c' (encKVs (fs.take k)) (wr.alloc (.cells #[.string key, .string val] 38)) :=
        ⟨ho.out.alloc _, ⟨hH.cell 0, hH.cell 1⟩, by simp, by have := hbl.size; simp; omega, fun e => by
          cases A' with
          | none => cases e
          | some ad =>
            have := (ho.out.block rfl).2
            simp at e
            omega, hbl.alloc hbl.size _⟩
      clear h1 h2 q0 q1 hH
      generalize wr.alloc (.cells #[.string key, .string val] 38) = W at *
      have hc1 : (#[Value.int .u8 (IntKind.u8.wrap (key.size : Int))]).toList = bv [UInt8.ofNat key.size] := by rw [u8w]; rfl
      have M1 := (M0.alloc (.cells #[.int .u8 (IntKind.u8.wrap (key.size : Int))] 5)).drew
      have M2 := ((M0.alloc (.cells #[.int .u8 (IntKind.u8.wrap ((val.size : Int) / 16777216)), .int .u8 (IntKind.u8.wrap ((val.size : Int) / 65536)), .int .u8 (IntKind.u8.wrap ((val.size : Int) / 256)), .int .u8 (IntKind.u8.wrap (val.size : Int))] 5)).alloc (.cells #[.int .u8 (IntKind.u8.wrap (key.size : Int))] 5)).drew
      have M3 := ((M0.alloc (.cells #[.int .u8 (IntKind.u8.wrap (key.size : Int))] 5)).alloc (.cells #[.int .u8 (IntKind.u8.wrap ((val.size : Int) / 16777216)), .int .u8 (IntKind.u8.wrap ((val.size : Int) / 65536)), .int .u8 (IntKind.u8.wrap ((val.size : Int) / 256)), .int .u8 (IntKind.u8.wrap (val.size : Int))] 5)).drew
      have R1 := (M0.fresh _ hc1 (k := 1) rfl (by decide)).drew
      have R2 := ((M0.alloc (.cells #[.int .u8 (IntKind.u8.wrap ((val.size : Int) / 16777216)), .int .u8 (IntKind.u8.wrap ((val.size : Int) / 65536)), .int .u8 (IntKind.u8.wrap ((val.size : Int) / 256)), .int .u8 (IntKind.u8.wrap (val.size : Int))] 5)).fresh _ hc1 (k := 1) rfl (by decide)).drew
      have R3 := ((M0.fresh _ hc1 (k := 1) rfl (by decide)).alloc (.cells #[.int .u8 (IntKind.u8.wrap ((val.size : Int) / 16777216)), .int .u8 (IntKind.u8.wrap ((val.size : Int) / 65536)), .int .u8 (IntKind.u8.wrap ((val.size : Int) / 256)), .int .u8 (IntKind.u8.wrap (val.size : Int))] 5)).drew
      have P2b := ((M0.fresh _ (lit4_cells val.size) (k := 4) rfl (by decide)).alloc (.cells #[.int .u8 (IntKind.u8.wrap (key.size : Int))] 5)).drew
      have P2c := ((M0.alloc (.cells #[.int .u8 (IntKind.u8.wrap (key.size : Int))] 5)).fresh _ (lit4_cells val.size) (k := 4) rfl (by decide)).drew
      rw [World.size_alloc] at P2c R2
      go_region_held3 (fun V => V.cell? ⟨wr.heap.size, 0, none⟩ = some (.string key) ∧ V.cell? ⟨wr.heap.size, 1, none⟩ = some (.string val))
        ((first | exact M0.s | exact M1.s | exact M2.s | exact M3.s | exact (M0.alloc _).s | exact N2.s | exact (N2.alloc _).s | exact N3.s | exact (N3.alloc _).s | exact N4.s))
        (first
          | (with_reducible refine st_at 22 ?_
             refine st_appB rfl (.tmp 16) (.tmp 21) 30 rfl w.heap.size A' m c' (encKVs (fs.take k)) rfl ?_ _ 1 [UInt8.ofNat key.size] rfl ?_ (m + 1) ?_ ?_ ?_ ?_
             · first | exact M1.own | exact M2.own | exact M3.own
             · first | exact srcB R1.rb | exact srcB R2.rb | exact srcB R3.rb
             · rfl
             · omega
             · first | exact M1.hb | exact M2.hb | exact M3.hb
             intro A2 c2 w2 ho2 hg2 ha2
             have N2 : MdSt w wr.heap.size key val w.heap.size A2 (m + 1) c2 (encKVs (fs.take k) ++ [UInt8.ofNat key.size]) w2 := by first | exact M1.step ho2 hg2 ha2 | exact M2.step ho2 hg2 ha2 | exact M3.step ho2 hg2 ha2
             first | (have P2 := P2b.step hg2 ha2) | (have P2 := P2c.step hg2 ha2) | skip
             clear ho2 hg2 ha2)
          | (with_reducible refine st_at 25 ?_
             refine st_appB rfl (.tmp 22) (.tmp 24) 9 rfl w.heap.size A2 (m + 1) c2 (encKVs (fs.take k) ++ [UInt8.ofNat key.size]) rfl ?_ _ key.size key.data.toList rfl (srcS key) (m + 1 + key.size) rfl (by omega) ?_ ?_
             · first | exact N2.own | exact (N2.alloc _).own
             · first | exact N2.hb | exact (N2.alloc _).hb
             intro A3 c3 w3 ho3 hg3 ha3
             have N3 : MdSt w wr.heap.size key val w.heap.size A3 (m + 1 + key.size) c3 (encKVs (fs.take k) ++ [UInt8.ofNat key.size] ++ key.data.toList) w3 := by first | exact N2.step ho3 hg3 ha3 | exact (N2.alloc _).step ho3 hg3 ha3
             first | (have P3 := P2.step hg3 ha3) | (have P3 := (N2.fresh _ (lit4_cells val.size) (k := 4) rfl (by decide)).step hg3 ha3) | skip
             clear ho3 hg3 ha3)
          | (with_reducible refine st_at 38 ?_
             refine st_appB rfl (.tmp 25) (.tmp 37) 30 rfl w.heap.size A3 (m + 1 + key.size) c3 (encKVs (fs.take k) ++ [UInt8.ofNat key.size] ++ key.data.toList) rfl ?_ _ 4 (be4 val.size) rfl ?_ (m + 1 + key.size + 4) rfl (by omega) ?_ ?_
             · first | exact N3.own | exact (N3.alloc _).own
             · first | exact srcB P3.rb | exact srcB (N3.fresh _ (lit4_cells val.size) (k := 4) rfl (by decide)).rb
             · first | exact N3.hb | exact (N3.alloc _).hb
             intro A4 c4 w4 ho4 hg4 ha4
             have N4 : MdSt w wr.heap.size key val w.heap.size A4 (m + 1 + key.size + 4) c4 (encKVs (fs.take k) ++ [UInt8.ofNat key.size] ++ key.data.toList ++ be4 val.size) w4 := by first | exact N3.step ho4 hg4 ha4 | exact (N3.alloc _).step ho4 hg4 ha4
             clear ho4 hg4 ha4))
      all_goals rename_i aK _
      all_goals refine aK _ _ ?_
      all_goals have d1 := N4.s.2
      all_goals have hb4 := N4.hb
      all_goals have ho4 := Lib.hid N4.own
      all_goals have HE : Hid (encKVs (fs.take (k + 1)) = encKVs (fs.take k) ++ [UInt8.ofNat key.size] ++ key.data.toList ++ be4 val.size ++ val.data.toList) := Lib.hid (kvEnc_snoc hf'.out)
      all_goals go_wp2_with (first
        | (at_builtin
           refine wpl_appB rfl (.tmp 39) (.tmp 41) 9 rfl w.heap.size A4 (m + 1 + key.size + 4) c4 _ rfl ho4.out _ val.size val.data.toList rfl (srcS val) (m + 1 + key.size + 4 + val.size) rfl (by omega) hb4 ?_
           intro A5 c5 w5 ho5 hg5 ha5
           have hb5 : Below w.heap.size w w5 := N4.bl.grown hg5 hb4 (fun g e => ho4.out.base_le e)
           rw [← HE.out] at ho5
           have HO5 := Lib.hid ho5
           clear ho5 hg5 ha5))
      all_goals go_roundw
      all_goals first
        | (simp [intOf]; omega)
        | exact ⟨k + 1, m + 1 + key.size + 4 + val.size, A5, c5, by omega, by go_num, rfl, by omega, HO5, hb5⟩
    · have hkn' : k = n := by omega
      have hfull : fs.take k = fs := List.take_of_length_le (by rw [hl.out]; omega)
      rw [hfull] at ho
      subst hkn'
      go_wp2_with fail
      go_ret
      exact ⟨A', m, c', rfl, ho.out, hbl⟩
end Go.Proofs.YtkpcepdalegmmaaDoor
