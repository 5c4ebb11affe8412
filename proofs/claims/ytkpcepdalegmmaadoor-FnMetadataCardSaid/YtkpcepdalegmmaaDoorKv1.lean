/- Properties: words; laws.zzFits4, laws.zzFits3, laws.pairs. -/
import Derived.Test.YtkpcepdalegmmaaDoorApp
namespace Go.Proofs.YtkpcepdalegmmaaDoor
open Go.RowKit

/-- A property. -/
structure Kv where
  key : ByteArray
  val : ByteArray
def Kv.cells (f : Kv) : List Value := [.string f.key, .string f.val]
def kvCells (fs : List Kv) : List Value := fs.flatMap Kv.cells
/-- A slice of properties that reads. -/
def KvS (w : World) (B : Nat) (A : Option Addr) (n : Nat) (fs : List Kv) : Prop := Reads w B 2 A n (kvCells fs)

theorem kvCells_length (fs : List Kv) : (kvCells fs).length = fs.length * 2 := by
  induction fs with
  | nil => rfl
  | cons f r ih => simp only [kvCells, List.flatMap_cons, List.length_append, List.length_cons] at ih ⊢; rw [ih]; simp [Kv.cells]; omega
theorem kvCells_at (fs : List Kv) (i : Nat) (f : Kv) (h : fs[i]? = some f) : (kvCells fs)[i * 2]? = some (.string f.key) ∧ (kvCells fs)[i * 2 + 1]? = some (.string f.val) := by
  induction fs generalizing i with
  | nil => cases h
  | cons g r ih =>
    cases i with
    | zero =>
      simp at h
      subst h
      exact ⟨rfl, rfl⟩
    | succ i =>
      have := ih i (by simpa using h)
      have e : ∀ k, (kvCells (g :: r))[(i + 1) * 2 + k]? = (kvCells r)[i * 2 + k]? := fun k => by
        have e1 : (i + 1) * 2 + k = (i * 2 + k) + 2 := by omega
        rw [e1]
        rfl
      exact ⟨(e 0).trans this.1, (e 1).trans this.2⟩
theorem kvCells_snoc (fs : List Kv) (f : Kv) : kvCells fs ++ f.cells = kvCells (fs ++ [f]) := by simp [kvCells]
theorem kvCells_drop (fs : List Kv) (k : Nat) : (kvCells fs).drop (k * 2) = kvCells (fs.drop k) := by
  induction k generalizing fs with
  | zero => simp
  | succ k ih =>
    cases fs with
    | nil => simp [kvCells]
    | cons f r =>
      have e : (k + 1) * 2 = k * 2 + 2 := by omega
      rw [e, List.drop_succ_cons, ← ih r]
      rfl
theorem KvS.len {w : World} {B n : Nat} {A : Option Addr} {fs : List Kv} (h : KvS w B A n fs) : fs.length = n := by
  have := h.1
  rw [kvCells_length] at this
  omega
theorem KvS.at_ {w : World} {B n : Nat} {A : Option Addr} {fs : List Kv} (h : KvS w B A n fs) {i : Nat} (hi : i < n) : ∃ ad f, A = some ad ∧ ad.block < B ∧ fs[i]? = some f ∧
    w.cell? (ad.add (i * 2)) = some (.string f.key) ∧ w.cell? ⟨(ad.add (i * 2)).block, (ad.add (i * 2)).off + 1, none⟩ = some (.string f.val) := by
  obtain ⟨ad, e, hb, hc⟩ := h.2 (by omega)
  have hl := h.len
  have hf : fs[i]? = some fs[i] := List.getElem?_eq_getElem (by omega)
  obtain ⟨h1, h2⟩ := kvCells_at fs i _ hf
  exact ⟨ad, _, e, hb, hf, hc _ _ h1, (add_off ad (i * 2) 1 (by decide)) ▸ hc _ _ h2⟩
theorem KvS.after {w w' : World} {n : Nat} {A : Option Addr} {fs : List Kv} (h : KvS w w.heap.size A n fs) (hb : Below w.heap.size w w') : KvS w' w'.heap.size A n fs := (Reads.below h hb).more hb.size

def Kv.val_ (f : Kv) : Value := .agg #[.string f.key, .string f.val]
def kvSmall (f : Kv) : Bool := decide (f.key.size ≤ 2147483647) && decide (f.val.size ≤ 2147483647)

theorem all_at_no' {α : Type} {p : α → Bool} {l : List α} {k : Nat} {x : α} (h : l[k]? = some x) (hp : p x = false) : l.all p = false := by
  rw [List.all_eq_false]
  exact ⟨x, List.mem_of_getElem? h, by simp [hp]⟩
theorem all_at_yes' {α : Type} {p : α → Bool} {l : List α} {k : Nat} {x : α} (h : l[k]? = some x) (hp : p x = true) (ha : (l.take k).all p = true) : (l.take (k + 1)).all p = true := by
  have hk : k < l.length := (List.getElem?_eq_some_iff.1 h).1
  rw [List.take_succ_eq_append_getElem hk, List.all_append, ha, (List.getElem?_eq_some_iff.1 h).2]
  simp [hp]

theorem zzFits4 (f : Kv) (w : World) (hk : f.key.size ≤ maxLen) (hv : f.val.size ≤ maxLen) : Calls Tryd.prog 14 #[f.val_] w fun e w' => e = .returned (.bool (kvSmall f)) ∧ Below w.heap.size w w' := by
  unfold maxLen at hk hv
  obtain ⟨key, val⟩ := f
  unfold Kv.val_ kvSmall
  simp only at hk hv ⊢
  by_cases h : key.size ≤ 2147483647
  · rw [decide_eq_true h]
    by_cases h2 : val.size ≤ 2147483647
    · rw [decide_eq_true h2]
      go_enter Tryd.func14, Tryd.ntmps14
      go_wp2_with fail
      go_ret
      exact ⟨rfl, (Below.refl _ _).alloc (Nat.le_refl _) _⟩
    · rw [decide_eq_false h2]
      go_enter Tryd.func14, Tryd.ntmps14
      go_wp2_with fail
      go_ret
      exact ⟨rfl, (Below.refl _ _).alloc (Nat.le_refl _) _⟩
  · rw [decide_eq_false h]
    go_enter Tryd.func14, Tryd.ntmps14
    go_wp2_with fail
    go_ret
    exact ⟨rfl, (Below.refl _ _).alloc (Nat.le_refl _) _⟩

set_option maxRecDepth 100000 in
theorem zzFits3 (A : Option Addr) (n c : Nat) (fs : List Kv) (w : World) (hr : KvS w w.heap.size A n fs) (hn : n ≤ maxLen) (hb : ∀ f ∈ fs, f.key.size ≤ maxLen ∧ f.val.size ≤ maxLen) :
    Calls Tryd.prog 4 #[.slice A n c] w fun e w' => e = .returned (.bool (decide (n ≤ 2147483647) && fs.all kvSmall)) ∧ Below w.heap.size w w' := by
  unfold maxLen at hn
  by_cases h : n ≤ 2147483647
  · go_enter Tryd.func4, Tryd.ntmps4
    go_wp2_with fail
    go_loopw [10] (fun i wr => ∃ k : Nat, k ≤ n ∧ i = .int .i64 k ∧ Hid ((fs.take k).all kvSmall = true) ∧ Below w.heap.size w wr) (fun i _ => n - (intOf i).toNat)
    case atStart => exact ⟨0, Nat.zero_le _, rfl, Lib.hid rfl, Below.refl _ _⟩
    case round =>
      obtain ⟨k, hk, rfl, hall, hbl⟩ := hrel
      by_cases hkn : k < n
      · obtain ⟨ad, f, rfl, hadb, hf, h1, h2⟩ := (hr.after hbl).at_ hkn
        have hbf := hb f (List.mem_of_getElem? hf)
        go_wp2_with fail
        refine (zzFits4 f _ hbf.1 hbf.2).mono ?_
        rintro e w2 ⟨rfl, hb2⟩
        have hbl2 : Below w.heap.size w w2 := below_seq (hbl.alloc hbl.size _) hb2 (by simp; exact Nat.le_succ_of_le hbl.size)
        cases hs : kvSmall f
        · have hno : Hid (fs.all kvSmall = false) := Lib.hid (all_at_no' hf hs)
          clear hs hall h1 h2
          go_wp2_with fail
          go_ret
          exact ⟨by rw [hno.out, Bool.and_false]; rfl, hbl2⟩
        · have hyes : Hid ((fs.take (k + 1)).all kvSmall = true) := Lib.hid (all_at_yes' hf hs hall.out)
          clear hs hall h1 h2
          go_wp2_with fail
          go_roundw
          case rel => exact ⟨k + 1, by omega, by go_num, hyes, hbl2⟩
          case measure => simp [intOf]; omega
      · have hkn' : k = n := by omega
        have hyes : Hid (fs.all kvSmall = true) := Lib.hid (by rw [← hall.out, List.take_of_length_le (by rw [hr.len]; omega)])
        subst hkn'
        clear hall
        go_wp2_with fail
        go_ret
        exact ⟨by rw [hyes.out, decide_eq_true h]; rfl, hbl⟩
  · have h' : Hid (¬ n ≤ 2147483647) := Lib.hid h
    go_enter Tryd.func4, Tryd.ntmps4
    go_wp2_with fail
    go_ret
    exact ⟨by rw [decide_eq_false h'.out]; rfl, Below.refl _ _⟩

theorem own_base' {w : World} {base size n c : Nat} {e : TypeId} {A : Option Addr} {xs : List Value} (h : w.ownsRow base e size (.slice A n c) n xs) {g : Nat} (hg : A.map (·.block) = some g) : base ≤ g := by
  rcases h.2 with ⟨hv, _⟩ | ⟨g', cap, cur, hv, hb, _⟩
  · injection hv with hA
    subst hA
    cases hg
  · injection hv with hA
    subst hA
    simp at hg
    omega

theorem elSpecKv : Elem 24 38 2 32 := ⟨Tryd.underlying24, ⟨.agg #[.string ⟨#[]⟩, .string ⟨#[]⟩], by kernel_rfl, rfl⟩, by decide⟩
theorem elImplKv : Elem 22 36 2 32 := ⟨Tryd.underlying22, ⟨.agg #[.string ⟨#[]⟩, .string ⟨#[]⟩], by kernel_rfl, rfl⟩, by decide⟩
theorem Kv.one (f : Kv) : ∀ u ∈ (#[Value.string f.key, .string f.val]).toList, u.oneCell' = true := by
  intro u hu
  simp at hu
  rcases hu with rfl | rfl <;> rfl

set_option maxRecDepth 100000 in
theorem pairs (A : Option Addr) (n c : Nat) (fs : List Kv) (w : World) (hr : KvS w w.heap.size A n fs) (hn : n ≤ 2147483647) :
    Calls Tryd.prog 5 #[.slice A n c] w fun e w' => ∃ A' c', e = .returned (.slice A' n c') ∧ w'.ownsRow w.heap.size 38 2 (.slice A' n c') n (kvCells fs) ∧ Below w.heap.size w w' := by
  go_enter Tryd.func5, Tryd.ntmps5
  go_wp2_with fail
  go_loopw [3, 8] (fun v i wr => ∃ (k : Nat) (A' : Option Addr) (c' : Nat), k ≤ n ∧ i = .int .i64 k ∧ v = .slice A' k c' ∧ wr.ownsRow w.heap.size 38 2 (.slice A' k c') k (kvCells (fs.take k)) ∧ Below w.heap.size w wr) (fun _ i _ => n - (intOf i).toNat)
  case atStart => exact ⟨0, none, 0, Nat.zero_le _, rfl, rfl, World.ownsRow_nil w _ _ _, Below.refl _ _⟩
  case round =>
    obtain ⟨k, A', c', hk, rfl, rfl, ho, hbl⟩ := hrel
    by_cases hkn : k < n
    · obtain ⟨ad, f, rfl, hadb, hf, h1, h2⟩ := (hr.after hbl).at_ hkn
      have g0 := (Blk.new wr 36 #[.string f.key, .string f.val]).cell 0
      have g1 := (Blk.new wr 36 #[.string f.key, .string f.val]).cell 1
      simp only [List.getElem?_toArray, List.getElem?_cons_zero, List.getElem?_cons_succ] at g0 g1
      have hsrc := srcNew elSpecKv (w := wr.alloc (.cells #[.string f.key, .string f.val] 36)) #[.string f.key, .string f.val] rfl f.one
      rw [World.size_alloc] at hsrc
      go_wp2_with (first
        | (at_builtin
           refine wpl_appT rfl elSpecKv (.tmp 12) (.tmp 18) 24 rfl w.heap.size _ k _ _ rfl ((ho.alloc _).alloc _) _ 1 _ rfl hsrc (k + 1) rfl (by omega) (by decide) (by have := hbl.size; simp; omega) ?_
           intro A2 c2 w2 ho2 hg2 ha2))
      have hb2 : Below w.heap.size w w2 := ((hbl.alloc hbl.size _).alloc (by have := hbl.size; simp; omega) _).grown hg2 (by have := hbl.size; simp; omega) (fun g hg => own_base' ho hg)
      have ho3 : w2.ownsRow w.heap.size 38 2 (.slice A2 (k + 1) c2) (k + 1) (kvCells (fs.take (k + 1))) := by
        have hk2 : k < fs.length := by rw [hr.len]; exact hkn
        rw [List.take_succ_eq_append_getElem hk2, (List.getElem?_eq_some_iff.1 hf).2, ← kvCells_snoc]
        exact ho2
      clear ho2 hsrc g0 g1 h1 h2
      go_roundw
      case rel => exact ⟨k + 1, A2, c2, by omega, by go_num, rfl, ho3, hb2⟩
      case measure => simp [intOf]; omega
    · have hkn' : k = n := by omega
      rw [List.take_of_length_le (by rw [hr.len]; omega)] at ho
      subst hkn'
      go_wp2_with fail
      go_ret
      exact ⟨A', c', rfl, ho, hbl⟩
end Go.Proofs.YtkpcepdalegmmaaDoor
