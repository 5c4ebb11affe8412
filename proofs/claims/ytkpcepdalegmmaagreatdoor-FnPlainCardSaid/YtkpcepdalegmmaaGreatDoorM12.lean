/- Parts of a proof, laid behind one another: Properties: words; laws.zzFits4, laws.zzFits3, laws.pairs. Properties: spec.Metadata. bePutUint32, bePutUint64. Properties: impl.ascii, impl.named. Properties: (*Property).Write. -/
import Derived.Test.YtkpcepdalegmmaaGreatDoorM06
import Derived.Test.YtkpcepdalegmmaaGreatDoorM03
import Derived.Deep.RegionHeld3
import Derived.Test.YtkpcepdalegmmaaGreatDoorM07
import Derived.Test.YtkpcepdalegmmaaGreatDoorM02
import Derived.Laws.Bits64b
import Derived.Test.YtkpcepdalegmmaaGreatDoorM10
import Derived.Test.YtkpcepdalegmmaaGreatDoorM11
import Derived.Outline
/-! Properties: words; laws.zzFits4, laws.zzFits3, laws.pairs. -/
namespace Go.Proofs.YtkpcepdalegmmaaGreatDoor
open Go.RowKit

/-- A property. -/
structure Kv where
  key : ByteArray
  val : ByteArray
def Kv.cells (f : Kv) : List Value := [.string f.key, .string f.val]
def kvCells (fs : List Kv) : List Value := fs.flatMap Kv.cells
/-- A slice of properties that reads. -/
def KvS (w : World) (B : Nat) (A : Option Addr) (n : Nat) (fs : List Kv) : Prop := Reads w B 2 A n (kvCells fs)

theorem kvCells_length (fs : List Kv) : (kvCells fs).length = fs.length * 2 := by
  induction fs with
  | nil => rfl
  | cons f r ih => simp only [kvCells, List.flatMap_cons, List.length_append, List.length_cons] at ih ⊢; rw [ih]; simp [Kv.cells]; omega
theorem kvCells_at (fs : List Kv) (i : Nat) (f : Kv) (h : fs[i]? = some f) : (kvCells fs)[i * 2]? = some (.string f.key) ∧ (kvCells fs)[i * 2 + 1]? = some (.string f.val) := by
  induction fs generalizing i with
  | nil => cases h
  | cons g r ih =>
    cases i with
    | zero =>
      simp at h
      subst h
      exact ⟨rfl, rfl⟩
    | succ i =>
      have := ih i (by simpa using h)
      have e : ∀ k, (kvCells (g :: r))[(i + 1) * 2 + k]? = (kvCells r)[i * 2 + k]? := fun k => by
        have e1 : (i + 1) * 2 + k = (i * 2 + k) + 2 := by omega
        rw [e1]
        rfl
      exact ⟨(e 0).trans this.1, (e 1).trans this.2⟩
theorem kvCells_snoc (fs : List Kv) (f : Kv) : kvCells fs ++ f.cells = kvCells (fs ++ [f]) := by simp [kvCells]
theorem kvCells_drop (fs : List Kv) (k : Nat) : (kvCells fs).drop (k * 2) = kvCells (fs.drop k) := by
  induction k generalizing fs with
  | zero => simp
  | succ k ih =>
    cases fs with
    | nil => simp [kvCells]
    | cons f r =>
      have e : (k + 1) * 2 = k * 2 + 2 := by omega
      rw [e, List.drop_succ_cons, ← ih r]
      rfl
theorem KvS.len {w : World} {B n : Nat} {A : Option Addr} {fs : List Kv} (h : KvS w B A n fs) : fs.length = n := by
  have := h.1
  rw [kvCells_length] at this
  omega
theorem KvS.at_ {w : World} {B n : Nat} {A : Option Addr} {fs : List Kv} (h : KvS w B A n fs) {i : Nat} (hi : i < n) : ∃ ad f, A = some ad ∧ ad.block < B ∧ fs[i]? = some f ∧
    w.cell? (ad.add (i * 2)) = some (.string f.key) ∧ w.cell? ⟨(ad.add (i * 2)).block, (ad.add (i * 2)).off + 1, none⟩ = some (.string f.val) := by
  obtain ⟨ad, e, hb, hc⟩ := h.2 (by omega)
  have hl := h.len
  have hf : fs[i]? = some fs[i] := List.getElem?_eq_getElem (by omega)
  obtain ⟨h1, h2⟩ := kvCells_at fs i _ hf
  exact ⟨ad, _, e, hb, hf, hc _ _ h1, (add_off ad (i * 2) 1 (by decide)) ▸ hc _ _ h2⟩
theorem KvS.after {w w' : World} {n : Nat} {A : Option Addr} {fs : List Kv} (h : KvS w w.heap.size A n fs) (hb : Below w.heap.size w w') : KvS w' w'.heap.size A n fs := (Reads.below h hb).more hb.size

def Kv.val_ (f : Kv) : Value := .agg #[.string f.key, .string f.val]
def kvSmall (f : Kv) : Bool := decide (f.key.size ≤ 2147483647) && decide (f.val.size ≤ 2147483647)

theorem all_at_no' {α : Type} {p : α → Bool} {l : List α} {k : Nat} {x : α} (h : l[k]? = some x) (hp : p x = false) : l.all p = false := by
  rw [List.all_eq_false]
  exact ⟨x, List.mem_of_getElem? h, by simp [hp]⟩
theorem all_at_yes' {α : Type} {p : α → Bool} {l : List α} {k : Nat} {x : α} (h : l[k]? = some x) (hp : p x = true) (ha : (l.take k).all p = true) : (l.take (k + 1)).all p = true := by
  have hk : k < l.length := (List.getElem?_eq_some_iff.1 h).1
  rw [List.take_succ_eq_append_getElem hk, List.all_append, ha, (List.getElem?_eq_some_iff.1 h).2]
  simp [hp]

theorem own_base' {w : World} {base size n c : Nat} {e : TypeId} {A : Option Addr} {xs : List Value} (h : w.ownsRow base e size (.slice A n c) n xs) {g : Nat} (hg : A.map (·.block) = some g) : base ≤ g := by
  rcases h.2 with ⟨hv, _⟩ | ⟨g', cap, cur, hv, hb, _⟩
  · injection hv with hA
    subst hA
    cases hg
  · injection hv with hA
    subst hA
    simp at hg
    omega

theorem Kv.one (f : Kv) : ∀ u ∈ (#[Value.string f.key, .string f.val]).toList, u.oneCell' = true := by
  intro u hu
  simp at hu
  rcases hu with rfl | rfl <;> rfl

end Go.Proofs.YtkpcepdalegmmaaGreatDoor

/-! Properties: spec.Metadata. -/
namespace Go.Proofs.YtkpcepdalegmmaaGreatDoor
open Go.RowKit

def be4 (n : Nat) : List UInt8 := [UInt8.ofNat (n / 16777216), UInt8.ofNat (n / 65536), UInt8.ofNat (n / 256), UInt8.ofNat n]
def encKV (f : Kv) : List UInt8 := (UInt8.ofNat f.key.size :: f.key.data.toList) ++ (be4 f.val.size ++ f.val.data.toList)
def encKVs (fs : List Kv) : List UInt8 := fs.flatMap encKV
theorem encKV_length (f : Kv) : (encKV f).length = f.key.size + f.val.size + 5 := by
  have h1 : f.key.data.toList.length = f.key.size := by simp
  have h2 : f.val.data.toList.length = f.val.size := by simp
  simp only [encKV, be4, List.length_append, List.length_cons, List.length_nil, h1, h2]
  omega

theorem u8w (n : Nat) : IntKind.u8.wrap (n : Int) = ((UInt8.ofNat n).toNat : Int) := by
  have : (UInt8.ofNat n).toNat = n % 256 := by simp
  rw [this, IntKind.wrap_u8]
  omega
theorem lit4_cells (v : Nat) : (#[Value.int .u8 (IntKind.u8.wrap ((v : Int) / 16777216)), .int .u8 (IntKind.u8.wrap ((v : Int) / 65536)), .int .u8 (IntKind.u8.wrap ((v : Int) / 256)), .int .u8 (IntKind.u8.wrap (v : Int))]).toList = bv (be4 v) := by
  have e1 := u8w (v / 16777216)
  have e2 := u8w (v / 65536)
  have e3 := u8w (v / 256)
  have e4 := u8w v
  simp only [Int.natCast_ediv] at e1 e2 e3
  simp only [bv, be4, List.map_cons, List.map_nil, ← e1, ← e2, ← e3, ← e4]
  rfl

theorem kvEnc_snoc {fs : List Kv} {k : Nat} {key val : ByteArray} (h : fs[k]? = some ⟨key, val⟩) : encKVs (fs.take (k + 1)) = encKVs (fs.take k) ++ [UInt8.ofNat key.size] ++ key.data.toList ++ be4 val.size ++ val.data.toList := by
  obtain ⟨h1, h2⟩ := List.getElem?_eq_some_iff.1 h
  rw [List.take_succ_eq_append_getElem h1, h2]
  simp [encKVs, encKV]

/-- A row being written, beside a property of two cells in block H. -/
structure MdSt (w0 : World) (H : Nat) (key val : ByteArray) (base : Nat) (A : Option Addr) (n c : Nat) (l : List UInt8) (V : World) : Prop where
  own : OB V base A n c l
  s : V.cell? ⟨H, 0, none⟩ = some (.string key) ∧ V.cell? ⟨H, 1, none⟩ = some (.string val)
  hH : H < V.heap.size
  hb : base ≤ V.heap.size
  ne : some H ≠ A.map (·.block)
  bl : Below base w0 V
/-- New bytes in block D, to be appended. -/
structure Lit4 (A : Option Addr) (D n : Nat) (l : List UInt8) (V : World) : Prop where
  rb : RB V V.heap.size (some ⟨D, 0, none⟩) n l
  lt : D < V.heap.size
  ne : some D ≠ A.map (·.block)
section
variable {w0 : World} {H : Nat} {key val : ByteArray} {base : Nat} {A A2 : Option Addr} {n c n2 c2 D k : Nat} {l l2 x : List UInt8} {V w2 : World}
theorem MdSt.alloc (h : MdSt w0 H key val base A n c l V) (o : Obj) : MdSt w0 H key val base A n c l (V.alloc o) :=
  ⟨h.own.alloc o, ⟨(World.cell?_alloc_lt V o _ h.hH).trans h.s.1, (World.cell?_alloc_lt V o _ h.hH).trans h.s.2⟩, by have := h.hH; simp; omega, by have := h.hb; simp; omega, h.ne, h.bl.alloc h.hb o⟩
theorem MdSt.drew (h : MdSt w0 H key val base A n c l V) : MdSt w0 H key val base A n c l V.drew := ⟨h.own, h.s, h.hH, h.hb, h.ne, h.bl.drew⟩
theorem MdSt.step (h : MdSt w0 H key val base A n c l V) (ho : OB w2 base A2 n2 c2 l2) (hg : V.grownBy w2 (A.map (·.block))) (ha : A2 = A ∨ A2 = some ⟨V.heap.size, 0, none⟩) : MdSt w0 H key val base A2 n2 c2 l2 w2 := by
  have h1 := h.hH
  have h2 := hg.size
  have hbk := hg.block H h1 h.ne
  refine ⟨ho, ⟨(World.cell?_of_block hbk).trans h.s.1, (World.cell?_of_block hbk).trans h.s.2⟩, by omega, by have := h.hb; omega, ?_, h.bl.grown hg h.hb fun g e => h.own.base_le e⟩
  rcases ha with rfl | rfl
  · exact h.ne
  · simp; omega
theorem MdSt.fresh (h : MdSt w0 H key val base A n c l V) (cs : Array Value) (hcs : cs.toList = bv x) (hk : x.length = k) (hm : k ≤ maxLen) : Lit4 A V.heap.size k x (V.alloc (.cells cs 5)) := by
  refine ⟨(OB.lit V 0 (Nat.zero_le _) x cs hcs k hk hm).rb, by simp, fun e => ?_⟩
  cases A with
  | none => cases e
  | some ad =>
    have := (h.own.block rfl).2
    simp at e
    omega
theorem Lit4.alloc (h : Lit4 A D k x V) (o : Obj) : Lit4 A D k x (V.alloc o) := ⟨h.rb.new o, by have := h.lt; simp; omega, h.ne⟩
theorem Lit4.drew (h : Lit4 A D k x V) : Lit4 A D k x V.drew := ⟨h.rb, h.lt, h.ne⟩
theorem Lit4.step (h : Lit4 A D k x V) (hg : V.grownBy w2 (A.map (·.block))) (ha : A2 = A ∨ A2 = some ⟨V.heap.size, 0, none⟩) : Lit4 A2 D k x w2 := by
  have h1 := h.lt
  have h2 := hg.size
  refine ⟨⟨h.rb.1, fun h0 => ?_⟩, by omega, ?_⟩
  · obtain ⟨ad, e, hb, hc⟩ := h.rb.2 h0
    injection e with e
    subst e
    exact ⟨_, rfl, by simp only; omega, fun j u hu => (World.cell?_of_block (hg.block _ (by rw [block_of_add]; exact h1) (by rw [block_of_add]; exact h.ne))).trans (hc j u hu)⟩
  · rcases ha with rfl | rfl
    · exact h.ne
    · simp; omega
end

end Go.Proofs.YtkpcepdalegmmaaGreatDoor

/-! bePutUint32, bePutUint64. -/
namespace Go.Proofs.YtkpcepdalegmmaaGreatDoor
open Go.RowKit

def noughts8 : List UInt8 := [0, 0, 0, 0, 0, 0, 0, 0]
set_option maxRecDepth 100000 in
theorem bePutUint32 (g off n c v : Nat) (T : TypeId) (L : List UInt8) (w : World) (hg : BB w g T L) (hn : 4 ≤ n) (hn2 : n ≤ 1099511627776) (hfit : off + 4 ≤ L.length) (hv : v < 4294967296) :
    Calls Tryz.prog 74 #[.slice (some ⟨g, off, none⟩) n c, .int .u32 (v : Int)] w fun ed w' => ed = .returned (.tuple #[]) ∧ BB w' g T ((((L.set off (UInt8.ofNat (v / 16777216))).set (off + 1) (UInt8.ofNat (v / 65536))).set (off + 2) (UInt8.ofNat (v / 256))).set (off + 3) (UInt8.ofNat v)) ∧ Apart [g] w w' ∧ w'.heap.size = w.heap.size := by
  have c0 := hg.cell (i := off) (by omega)
  have c1 := hg.cell (i := off + 1) (by omega)
  have c2 := hg.cell (i := off + 2) (by omega)
  have c3 := hg.cell (i := off + 3) (by omega)
  have f0 := hg.frozen off
  have f1 := hg.frozen (off + 1)
  have f2 := hg.frozen (off + 2)
  have f3 := hg.frozen (off + 3)
  go_enter Tryz.func74, Tryz.ntmps74
  go_wp2_with fail
  have e : ∀ y : Nat, ((UInt8.ofNat y).toNat : Int) = (y : Int) % 256 := fun y => by
    have : (UInt8.ofNat y).toNat = y % 256 := by simp
    rw [this]; omega
  have e0 : (v : Int) / 16777216 = ((UInt8.ofNat (v / 16777216)).toNat : Int) := by rw [e]; omega
  have e1 : (v : Int) / 65536 % 256 = ((UInt8.ofNat (v / 65536)).toNat : Int) := by rw [e]; omega
  have e2 : (v : Int) / 256 % 256 = ((UInt8.ofNat (v / 256)).toNat : Int) := by rw [e]; omega
  have e3 : (v : Int) % 256 = ((UInt8.ofNat v).toNat : Int) := by rw [e]
  rw [e1, e2, e0, e3]
  refine bodyPost_end (results_none rfl _ _ _) rfl ⟨rfl, (((hg.set _ _).set _ _).set _ _).set _ _, ((((Apart.refl _ _).setN (.inl (by simp)) _).setN (.inl (by simp)) _).setN (.inl (by simp)) _).setN (.inl (by simp)) _, by simp⟩

set_option maxRecDepth 100000 in
theorem bePutUint64 (g k : Nat) (T : TypeId) (f : UInt8) (w : World) (hg : BB w g T (f :: noughts8)) (hk : k ≤ 1000) :
    Calls Tryz.prog 75 #[.slice (some ⟨g, 1, none⟩) 8 8, .int .u64 (k : Int)] w fun ed w' => ed = .returned (.tuple #[]) ∧ BB w' g T (f :: be8 k) ∧ Apart [g] w w' ∧ w'.heap.size = w.heap.size := by
  have c8 := hg.cell (i := 8) (by simp [noughts8])
  have hs : ∀ W, (Instr.slice 23 (.slice (some ⟨g, 1, none⟩) 8 8) (some (.int .i64 4)) none none).run Tryz.prog W = .ok (.slice (some ⟨g, 5, none⟩) 4 4) W := fun W => run_slice_lo (some ⟨g, 1, none⟩) 8 8 W 4 (by decide)
  go_enter Tryz.func75, Tryz.ntmps75
  have hz : (k : Int) / 4294967296 = ((0 : Nat) : Int) := by omega
  have hu : UInt8.ofNat (k / 16777216) = 0 ∧ UInt8.ofNat (k / 65536) = 0 := by
    rw [Nat.div_eq_of_lt (by omega), Nat.div_eq_of_lt (by omega)]
    exact ⟨rfl, rfl⟩
  have HU := Lib.hid hu
  clear hu
  go_wp2_with fail
  refine (bePutUint32 g 1 8 8 0 T _ w hg (by decide) (by decide) (by simp [noughts8]) (by decide)).mono ?_
  rintro e w1 ⟨rfl, hg1, ha1, hs1⟩
  have HS1 := Lib.hid hs1
  clear hs1
  go_wp2_with fail
  refine (bePutUint32 g 5 4 4 k T _ w1 hg1 (by decide) (by decide) (by simp [noughts8]) (by omega)).mono ?_
  rintro e w2 ⟨rfl, hg2, ha2, hs2⟩
  have HS2 := Lib.hid hs2
  clear hs2
  rw [HU.out.1, HU.out.2] at hg2
  go_wp2_with fail
  refine bodyPost_end (results_none rfl _ _ _) rfl ⟨rfl, hg2, ha1.trans ha2, HS2.out.trans HS1.out⟩
end Go.Proofs.YtkpcepdalegmmaaGreatDoor

/-! Properties: impl.ascii, impl.named. -/
namespace Go.Proofs.YtkpcepdalegmmaaGreatDoor
open Go.RowKit

def asciiB (c : UInt8) : Bool := decide (c.toNat < 128)
theorem all_snocB {l : List UInt8} {k : Nat} {p : UInt8 → Bool} (hk : k < l.length) (h : (l.take k).all p = true) (hp : p (l.getD k 0) = true) : (l.take (k + 1)).all p = true := by
  rw [List.getD_eq_getElem?_getD, List.getElem?_eq_getElem hk] at hp
  rw [List.take_succ_eq_append_getElem hk, List.all_append, h]
  simpa using hp
theorem all_noB {l : List UInt8} {k : Nat} {p : UInt8 → Bool} (hk : k < l.length) (hp : p (l.getD k 0) = false) : l.all p = false := by
  rw [List.getD_eq_getElem?_getD, List.getElem?_eq_getElem hk] at hp
  rw [List.all_eq_false]
  exact ⟨l[k], List.getElem_mem hk, by simpa using hp⟩

theorem bits_or_i64_nat (a b : Nat) (ha : a < 4611686018427387904) (hb : b < 4611686018427387904) : bits .or .i64 (a : Int) (b : Int) = ((a ||| b : Nat) : Int) := by
  have hx : a ||| b < 2 ^ 62 := Nat.or_lt_two_pow (by omega) (by omega)
  have h1 : (BitVec.ofInt 64 (a : Int)).toNat = a := by
    rw [BitVec.ofInt_natCast, BitVec.toNat_ofNat]; exact Nat.mod_eq_of_lt (by omega)
  have h2 : (BitVec.ofInt 64 (b : Int)).toNat = b := by
    rw [BitVec.ofInt_natCast, BitVec.toNat_ofNat]; exact Nat.mod_eq_of_lt (by omega)
  show IntKind.i64.wrap ((BitVec.ofInt 64 (a : Int) ||| BitVec.ofInt 64 (b : Int)).toNat : Int) = _
  rw [BitVec.toNat_or, h1, h2, IntKind.wrap_i64]
  omega
theorem or_i64_byte (y x : Nat) (hx : x < 256) (hy : y < 16777216) : bits .or .i64 ((y : Int) * 256) (x : Int) = ((y * 256 + x : Nat) : Int) := by
  have e : (y : Int) * 256 = ((y * 256 : Nat) : Int) := by omega
  rw [e, bits_or_i64_nat (y * 256) x (by omega) (by omega), show y * 256 = 2 ^ 8 * y by omega, ← Nat.two_pow_add_eq_or_of_lt (by omega : x < 2 ^ 8)]

theorem or_i64_zero (x : Nat) (hx : x < 256) : bits .or .i64 0 (x : Int) = (x : Int) := by
  have h := or_i64_byte 0 x hx (by omega)
  simpa using h

/-- What 'named' answers. -/
def NamedPost (F : Prop) (w : World) (e : Ending) (w' : World) : Prop := (∃ b : Bool, e = .returned (.bool b) ∧ (b = false → F)) ∧ w = w'
/-- Where a name ends; what stands behind it. -/
def nameEnd (l : List UInt8) (at_ : Nat) : Nat := Nat.min (at_ + 1 + (l.getD at_ 0).toNat) l.length
def be4At (l : List UInt8) (e : Nat) : Nat := ((((l.getD e 0).toNat) * 256 + (l.getD (e + 1) 0).toNat) * 256 + (l.getD (e + 2) 0).toNat) * 256 + (l.getD (e + 3) 0).toNat

end Go.Proofs.YtkpcepdalegmmaaGreatDoor

/-! Properties: (*Property).Write. -/
namespace Go.Proofs.YtkpcepdalegmmaaGreatDoor
open Go.RowKit

def titleS (s : ByteArray) : ByteArray := ⟨(titleL s.data.toList).toArray⟩
theorem run_slice_mid {g i m cp lo hi n : Nat} (w : World) (h1 : lo ≤ hi) (h2 : hi ≤ cp) (h3 : lo < cp) (hn : hi - lo = n) (a b : Int) (ha : a = (lo : Int)) (hb : b = (hi : Int)) :
    (Instr.slice 23 (.slice (some ⟨g, i, none⟩) m cp) (some (.int .i64 a)) (some (.int .i64 b)) none).run Tryz.prog w = .ok (.slice (some ⟨g, i + lo, none⟩) n (cp - lo)) w := by
  subst ha
  subst hb
  subst hn
  have h := run_slice_lh (some ⟨g, i, none⟩) m cp w lo hi h1 h2
  have e : cutA (some ⟨g, i, none⟩) cp lo = some ⟨g, i + lo, none⟩ := by
    unfold cutA
    rw [if_neg (by omega)]
    simp [Addr.add_lit]
  rw [e] at h
  exact h
theorem run_slice_mid' {A : Option Addr} {m cp lo hi n : Nat} (w : World) (h1 : lo ≤ hi) (h2 : hi ≤ cp) (hn : hi - lo = n) (a b : Int) (ha : a = (lo : Int)) (hb : b = (hi : Int)) :
    (Instr.slice 23 (.slice A m cp) (some (.int .i64 a)) (some (.int .i64 b)) none).run Tryz.prog w = .ok (.slice (cutA A cp lo) n (cp - lo)) w := by
  subst ha
  subst hb
  subst hn
  exact run_slice_lh A m cp w lo hi h1 h2
theorem take_mid {l : List UInt8} {m lo n : Nat} (h : lo + n ≤ m) : ((l.take m).drop lo).take n = (l.drop lo).take n := by
  rw [List.drop_take, List.take_take, Nat.min_eq_left (by omega)]
theorem getD_drop {L E : List UInt8} {i : Nat} (h : L.drop i = E) (j : Nat) : L.getD (i + j) 0 = E.getD j 0 := by
  rw [← h, List.getD_eq_getElem?_getD, List.getD_eq_getElem?_getD, List.getElem?_drop]
theorem be4_sum {v : Nat} (h : v ≤ 300) : (UInt8.ofNat (v / 16777216)).toNat * 16777216 + (UInt8.ofNat (v / 65536)).toNat * 65536 + (UInt8.ofNat (v / 256)).toNat * 256 + (UInt8.ofNat v).toNat = v := by
  have e : ∀ y : Nat, (UInt8.ofNat y).toNat = y % 256 := fun y => by simp
  rw [e, e, e, e]
  omega
/-- The parts of a property's bytes. -/
theorem enc_parts {L rest : List UInt8} {i : Nat} {kv : Kv} (h : L.drop i = encKV kv ++ rest) :
    L.getD i 0 = UInt8.ofNat kv.key.size ∧ (L.drop (i + 1)).take kv.key.size = kv.key.data.toList ∧
      (L.getD (i + (1 + kv.key.size)) 0 = UInt8.ofNat (kv.val.size / 16777216) ∧ L.getD (i + (1 + kv.key.size) + 1) 0 = UInt8.ofNat (kv.val.size / 65536) ∧ L.getD (i + (1 + kv.key.size) + 2) 0 = UInt8.ofNat (kv.val.size / 256) ∧ L.getD (i + (1 + kv.key.size) + 3) 0 = UInt8.ofNat kv.val.size) ∧
      (L.drop (i + (1 + kv.key.size + 4))).take kv.val.size = kv.val.data.toList := by
  have hk : kv.key.data.toList.length = kv.key.size := by simp
  have hv : kv.val.data.toList.length = kv.val.size := by simp
  have hE : encKV kv ++ rest = UInt8.ofNat kv.key.size :: (kv.key.data.toList ++ (be4 kv.val.size ++ (kv.val.data.toList ++ rest))) := by simp [encKV]
  rw [hE] at h
  have hd : ∀ j, L.drop (i + j) = (UInt8.ofNat kv.key.size :: (kv.key.data.toList ++ (be4 kv.val.size ++ (kv.val.data.toList ++ rest)))).drop j := fun j => by rw [← h, List.drop_drop]
  have hd1 : L.drop (i + (1 + kv.key.size)) = be4 kv.val.size ++ (kv.val.data.toList ++ rest) := by
    rw [hd, Nat.add_comm 1, List.drop_succ_cons, ← hk, List.drop_left]
  refine ⟨?_, ?_, ?_, ?_⟩
  · have := getD_drop h 0
    simpa using this
  · rw [hd 1, List.drop_succ_cons, List.drop_zero, ← hk, List.take_left]
  · refine ⟨?_, ?_, ?_, ?_⟩
    · have := getD_drop hd1 0
      simpa [be4] using this
    · have := getD_drop hd1 1
      simpa [be4] using this
    · have := getD_drop hd1 2
      simpa [be4] using this
    · have := getD_drop hd1 3
      simpa [be4] using this
  · rw [← Nat.add_assoc, ← List.drop_drop, hd1, show (4 : Nat) = (be4 kv.val.size).length from rfl, List.drop_left, ← hv, List.take_left]

set_option maxRecDepth 100000 in
set_option maxHeartbeats 8000000 in
theorem Write_ok (q g i m cp : Nat) (L rest : List UInt8) (k0 v0 : Value) (kv : Kv) (w : World) (hq : Blk w q 99 #[k0, v0]) (hg : BB w g 5 L) (hL : L.length = i + cp) (hm : (encKV kv).length ≤ m) (hmc : m ≤ cp) (hm2 : m ≤ 2147483647)
    (hD : L.drop i = encKV kv ++ rest) (hk1 : 1 ≤ kv.key.size) (hk : kv.key.size ≤ 100) (hv : kv.val.size ≤ 300) :
    Calls Tryz.prog 137 #[.pointer (some ⟨q, 0, none⟩), .slice (some ⟨g, i, none⟩) m cp] w fun e w' => e = .returned (.tuple #[.int .i64 (encKV kv).length, .nilIface]) ∧ Blk w' q 99 #[.string (titleS kv.key), .string kv.val] ∧ Apart [q] w w' := by
  have hqg : q ≠ g := hq.ne_ hg (by decide)
  obtain ⟨p1, p2, ⟨b0, b1, b2, b3⟩, p3⟩ := enc_parts hD
  have hlen := encKV_length kv
  obtain ⟨key, val⟩ := kv
  simp only at p1 p2 b0 b1 b2 b3 p3 hk1 hk hv hlen ⊢
  have c0 := hg.cell (i := i) (by omega)
  rw [p1] at c0
  have ek : ((UInt8.ofNat key.size).toNat : Int) = (key.size : Int) := by
    have : (UInt8.ofNat key.size).toNat = key.size := by simp; omega
    rw [this]
  rw [ek] at c0
  have s1 := fun W => run_slice_mid (g := g) (i := i) (m := m) (cp := cp) (lo := 1) (hi := 1 + key.size) (n := key.size) W (by omega) (by omega) (by omega) (by omega) 1 (1 + (key.size : Int)) rfl (by omega)
  have s2 := fun W => run_slice_mid (g := g) (i := i) (m := m) (cp := cp) (lo := 1 + key.size) (hi := 1 + key.size + 4) (n := 4) W (by omega) (by omega) (by omega) (by omega) (1 + (key.size : Int)) (1 + (key.size : Int) + 4) (by omega) (by omega)
  have s3 := fun W => run_slice_mid' (A := some ⟨g, i, none⟩) (m := m) (cp := cp) (lo := 1 + key.size + 4) (hi := 1 + key.size + 4 + val.size) (n := val.size) W (by omega) (by omega) (by omega) (1 + (key.size : Int) + 4) (1 + (key.size : Int) + 4 + (val.size : Int)) (by omega) (by omega)
  have r3 := fun (W : World) (h : BB W g 5 L) => run_strB (c := cp - (1 + key.size + 4)) ((h.rb (o := i) (n := m) (by omega)).cutA_ (lo := 1 + key.size + 4) (hi := 1 + key.size + 4 + val.size) (by omega) (by omega) hmc)
  rw [Nat.add_sub_cancel_left, take_mid (by omega), List.drop_drop, p3] at r3
  have r1 := run_strB (c := cp - 1) (hg.rb (o := i + 1) (n := key.size) (by omega))
  rw [p2] at r1
  have hq0 := hq.frozen 0
  have hq1 := hq.cell 0
  have R3 := Lib.hid r3
  have HX := Lib.hid (⟨b0, b1, b2, b3, p3⟩ : _ ∧ _ ∧ _ ∧ _ ∧ _)
  have HLn := Lib.hid hlen
  have HL := Lib.hid hL
  have hml : key.size + val.size + 5 ≤ m := by omega
  clear r3 b0 b1 b2 b3 p1 p2 p3 hD hlen hm hL
  go_enter Tryz.func137, Tryz.ntmps137
  go_wp2_with fail
  refine (toTitle ⟨key.data.toList.toArray⟩ _ (by show key.data.toList.toArray.size ≤ _; simp; omega)).mono ?_
  rintro e w1 ⟨rfl, hb1⟩
  have hQ1 := hq.after hb1 (Nat.le_refl _)
  have hG1 := hg.after hb1 (Nat.le_refl _)
  have d0 := hQ1.cell 0
  have f0 := hQ1.frozen 0
  simp only [List.getElem?_toArray, List.getElem?_cons_zero] at d0
  have et : (⟨(titleL (⟨key.data.toList.toArray⟩ : ByteArray).data.toList).toArray⟩ : ByteArray) = titleS key := rfl
  rw [et]
  clear et r1 c0 hq0 hq1
  go_wp2_with fail
  have hQ2 := hQ1.set_ 0 (.string (titleS key))
  have hG2 := hG1.farN (b := q) (o := 0) (Ne.symm hqg) (.string (titleS key))
  have hA2 : Apart [q] w (w1.setCell ⟨q, 0, none⟩ (.string (titleS key))) := (Apart.of_below hb1).setN (.inl (by simp)) _
  obtain ⟨b0, b1, b2, b3, _⟩ := HX.out
  refine (beUint32 g (i + (1 + key.size)) 4 (cp - (1 + key.size)) 5 L _ hG2 (by decide) (by decide) (by rw [HL.out]; omega) _ _ _ _ b0 b1 b2 b3).mono ?_
  clear b0 b1 b2 b3
  rintro e w3 ⟨rfl, nk, rfl⟩
  rw [be4_sum hv]
  have hQ3 := hQ2.drewN nk
  have hA3 := hA2.drewN nk
  have r3 := R3.out _ (hG2.drewN nk)
  clear hQ2 hG2 hA2 d0 f0 hQ1 hG1
  generalize (w1.setCell ⟨q, 0, none⟩ (.string (titleS key))).drewN nk = W3 at *
  have f1 := hQ3.frozen 1
  have d1 := hQ3.cell 1
  go_wp2_with fail
  go_ret2
  exact ⟨congrArg (fun v => Ending.returned (.tuple #[.int .i64 v, .nilIface])) (by rw [HLn.out]; omega), hQ3.set_ 1 _, hA3.setN (.inl (by simp)) _⟩
end Go.Proofs.YtkpcepdalegmmaaGreatDoor
