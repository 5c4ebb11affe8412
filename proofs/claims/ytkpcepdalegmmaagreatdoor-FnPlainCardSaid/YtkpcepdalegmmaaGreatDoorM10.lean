/- Parts of a proof, laid behind one another: append([]byte{}, data...): the new array known whole, its spare cells too. PLAIN: Buffer.Write, Decrypt. A block whose first bytes are written in place: what []byte(s) makes. Properties: spec.Small. -/
import Derived.Test.YtkpcepdalegmmaaGreatDoorM03
import Derived.Test.YtkpcepdalegmmaaGreatDoorM07
import Derived.Test.YtkpcepdalegmmaaGreatDoorM02
/-! append([]byte{}, data...): the new array known whole, its spare cells too. -/
namespace Go.Proofs.YtkpcepdalegmmaaGreatDoor
open Go.RowKit

section
variable {w : World}
theorem zeroCells_bv (k : Nat) : (Builtin.zeroCells (Value.int .u8 0).cells k).toList = bv (List.replicate k 0) := by
  apply List.ext_getElem
  · simp [Builtin.zeroCells, Value.cells, bv]
  · intro i h1 h2
    simp [Builtin.zeroCells, Value.cells, bv, Nat.mod_one]
theorem run_appZ (tx ty : TypeId) (D : Nat) (hD : BB w D 5 []) (X : Value) (m : Nat) (l : List UInt8) (hsrc : Src Tryz.prog 1 tx X m (bv l) w) (hsz : m ≤ 70368744177664) :
    ∃ g c' w', (Builtin.append_ #[23, tx] ty #[.slice (some ⟨D, 0, none⟩) 0 0, X]).run Tryz.prog w = .ok (.slice (some ⟨g, 0, none⟩) m c') w' ∧ BB w' g 5 (l ++ List.replicate (c' - m) 0) ∧ Below w.heap.size w w' ∧ D ≤ g ∧ m ≤ c' ∧ c' ≤ maxLen := by
  obtain ⟨i, hi, hz0, hz1, hz2⟩ := info_parts Tryz.info_u8
  have hl : (bv l).length = m * 1 := by have := hsrc.newsLen; omega
  by_cases hm : m = 0
  · subst hm
    have hl0 : l = [] := List.eq_nil_of_length_eq_zero (by simpa using hl)
    subst hl0
    have hr := run_append_room_src (P := Tryz.prog) w 23 tx ty 5 i Tryz.u_bytes hi D 0 0 0 X 0 (bv []) (by rw [hz1]; exact hsrc) (by omega) (fun j hj => by simp [bv] at hj) (fun j hj => by simp [bv] at hj)
    exact ⟨D, 0, _, hr, hD, Below.refl _ _, Nat.le_refl _, Nat.le_refl _, by unfold maxLen; omega⟩
  · have hr := run_append_grow_src (P := Tryz.prog) w 23 tx ty 5 i (.int .u8 0) Tryz.u_bytes hi hz0 (some ⟨D, 0, none⟩) 0 0 [] (by simp [Builtin.firstCells, loadCells, loadCellsFrom]) X m (bv l) (by rw [hz1]; exact hsrc) (by omega) (by omega) (growslice_fits (by omega) (by rw [hz2]; omega))
    rw [Nat.zero_add] at hr
    have hge := grownCap_ge w m 0 5
    have hcm : grownCap w m 0 5 ≤ maxLen := grownCap_le_maxLen w m 0 5 (by simp only [maxLen]; omega)
    have hb := Blk.new w.drew 5 (([] ++ bv l).toArray ++ Builtin.zeroCells (Value.int .u8 0).cells (grownCap w m 0 5 - m))
    refine ⟨_, _, _, hr, ?_, (Below.refl _ w).drew.alloc (Nat.le_refl _) _, Nat.le_of_lt hD.lt, hge, hcm⟩
    unfold BB
    have e : (bv (l ++ List.replicate (grownCap w m 0 5 - m) 0)).toArray = ([] ++ bv l).toArray ++ Builtin.zeroCells (Value.int .u8 0).cells (grownCap w m 0 5 - m) := by
      apply Array.ext'
      rw [Array.toList_append, zeroCells_bv, bv_append]
      simp
    rw [e]
    exact hb
end
section
variable {w : World} {o : Oper} {a : Act} {ops : Array Oper} {rest : List Oper} {Q : Exit → Act → World → Prop}
theorem wpl_appZ (hgd : o.guard = none) (s x : Operand) (tx : TypeId)
    (ho : o.op = .call { callee := .builtin .append, args := #[s, x], argTypes := #[23, tx] })
    (D : Nat) (hs : a.eval s = .slice (some ⟨D, 0, none⟩) 0 0) (hD : BB w D 5 []) (X : Value) (m : Nat) (l : List UInt8) (hx : a.eval x = X) (hsrc : Src Tryz.prog 1 tx X m (bv l) w) (hsz : m ≤ 70368744177664)
    (h : ∀ g c' w', BB w' g 5 (l ++ List.replicate (c' - m) 0) → Below w.heap.size w w' → D ≤ g → m ≤ c' → c' ≤ maxLen → wpList Tryz.prog ops Q rest (a.put o.dst (.slice (some ⟨g, 0, none⟩) m c')) w') : wpList Tryz.prog ops Q (o :: rest) a w := by
  refine wpList_plain hgd fun K hK => ?_
  obtain ⟨g, c', w', hr, h1, h2, h3, h4, h5⟩ := run_appZ tx o.type D hD X m l hsrc hsz
  unfold Oper.wp execOp
  simp only [ho, resolve, invoke, builtin, Sem.run_bind, Sem.run_pure, Result.andThen_ok, List.map_toArray, List.map_cons, List.map_nil, hs, hx, hr]
  exact hK _ _ (h g c' w' h1 h2 h3 h4 h5)
end
end Go.Proofs.YtkpcepdalegmmaaGreatDoor

/-! PLAIN: Buffer.Write, Decrypt. -/
namespace Go.Proofs.YtkpcepdalegmmaaGreatDoor
open Go.RowKit

theorem nil_BWrite (a : Addr) (w : World) : (nilAhead 318 89 (.pointer (some a)) "Write").run Tryz.prog w = .ok (some false) w := by kernel_rfl
theorem method_BWrite (a : Addr) (w : World) : (method 318 89 (.pointer (some a)) "Write").run Tryz.prog w = .ok (140, .pointer (some a)) w := by kernel_rfl
theorem run_appN {w : World} (tx ty : TypeId) (X : Value) (m : Nat) (l : List UInt8) (hsrc : Src Tryz.prog 1 tx X m (bv l) w) (hm : 0 < m) (hsz : m ≤ 70368744177664) :
    ∃ g c' w', (Builtin.append_ #[23, tx] ty #[.slice none 0 0, X]).run Tryz.prog w = .ok (.slice (some ⟨g, 0, none⟩) m c') w' ∧ BB w' g 5 (l ++ List.replicate (c' - m) 0) ∧ Below w.heap.size w w' ∧ w.heap.size ≤ g ∧ m ≤ c' ∧ c' ≤ maxLen := by
  obtain ⟨i, hi, hz0, hz1, hz2⟩ := info_parts Tryz.info_u8
  have hr := run_append_grow_src (P := Tryz.prog) w 23 tx ty 5 i (.int .u8 0) Tryz.u_bytes hi hz0 none 0 0 [] (by simp [Builtin.firstCells]) X m (bv l) (by rw [hz1]; exact hsrc) (by omega) (by omega) (growslice_fits (by omega) (by rw [hz2]; omega))
  rw [Nat.zero_add] at hr
  have hge := grownCap_ge w m 0 5
  have hcm : grownCap w m 0 5 ≤ maxLen := grownCap_le_maxLen w m 0 5 (by simp only [maxLen]; omega)
  have hb := Blk.new w.drew 5 (([] ++ bv l).toArray ++ Builtin.zeroCells (Value.int .u8 0).cells (grownCap w m 0 5 - m))
  refine ⟨_, _, _, hr, ?_, (Below.refl _ w).drew.alloc (Nat.le_refl _) _, Nat.le_refl _, hge, hcm⟩
  unfold BB
  have e : (bv (l ++ List.replicate (grownCap w m 0 5 - m) 0)).toArray = ([] ++ bv l).toArray ++ Builtin.zeroCells (Value.int .u8 0).cells (grownCap w m 0 5 - m) := by
    apply Array.ext'
    rw [Array.toList_append, zeroCells_bv, bv_append]
    simp
  rw [e]
  exact hb
theorem wpl_appN {w : World} {o : Oper} {a : Act} {ops : Array Oper} {rest : List Oper} {Q : Exit → Act → World → Prop} (hgd : o.guard = none) (s x : Operand) (tx : TypeId)
    (ho : o.op = .call { callee := .builtin .append, args := #[s, x], argTypes := #[23, tx] })
    (hs : a.eval s = .slice none 0 0) (X : Value) (m : Nat) (l : List UInt8) (hx : a.eval x = X) (hsrc : Src Tryz.prog 1 tx X m (bv l) w) (hm : 0 < m) (hsz : m ≤ 70368744177664)
    (h : ∀ g c' w', BB w' g 5 (l ++ List.replicate (c' - m) 0) → Below w.heap.size w w' → w.heap.size ≤ g → m ≤ c' → c' ≤ maxLen → wpList Tryz.prog ops Q rest (a.put o.dst (.slice (some ⟨g, 0, none⟩) m c')) w') : wpList Tryz.prog ops Q (o :: rest) a w := by
  refine wpList_plain hgd fun K hK => ?_
  obtain ⟨g, c', w', hr, h1, h2, h3, h4, h5⟩ := run_appN tx o.type X m l hsrc hm hsz
  unfold Oper.wp execOp
  simp only [ho, resolve, invoke, builtin, Sem.run_bind, Sem.run_pure, Result.andThen_ok, List.map_toArray, List.map_cons, List.map_nil, hs, hx, hr]
  exact hK _ _ (h g c' w' h1 h2 h3 h4 h5)
set_option maxRecDepth 100000 in
theorem BWrite (q m c B : Nat) (A : Option Addr) (l : List UInt8) (w : World) (hq : Blk w q 91 #[.slice none 0 0]) (hr : RB w B A m l) (hm : 0 < m) (hsz : m ≤ 70368744177664) :
    Calls Tryz.prog 140 #[.pointer (some ⟨q, 0, none⟩), .slice A m c] w fun e w' => e = .returned (.tuple #[.int .i64 m, .nilIface]) ∧ ∃ g c' v, BB v g 5 (l ++ List.replicate (c' - m) 0) ∧ w.heap.size ≤ g ∧ m ≤ c' ∧ Below w.heap.size w v ∧ w' = v.setCell ⟨q, 0, none⟩ (.slice (some ⟨g, 0, none⟩) m c') := by
  have c0 := hq.cell 0
  simp only [List.getElem?_toArray, List.getElem?_cons_zero] at c0
  go_enter Tryz.func140, Tryz.ntmps140
  go_wp2_with (first
    | (at_builtin
       refine wpl_appN rfl (.tmp 10) (.tmp 11) 23 rfl rfl _ m l rfl (srcB hr) hm hsz ?_
       intro g1 c1' w1 ho1 hb1 hg1 hc1 hm1
       have hq1 := hq.after hb1 (Nat.le_refl _)
       have d0 := hq1.cell 0
       have f0 := hq1.frozen 0
       simp only [List.getElem?_toArray, List.getElem?_cons_zero] at d0))
  go_ret2
  exact ⟨rfl, g1, c1', w1, ho1, hg1, hc1, hb1, rfl⟩
set_option maxRecDepth 100000 in
theorem PDecrypt (q m c B : Nat) (A : Option Addr) (l : List UInt8) (sa sb : Value) (w : World) (hq : Blk w q 91 #[.slice none 0 0]) (hr : RB w B A m l) (hB : B ≤ w.heap.size) (hm : 0 < m) (hsz : m ≤ 70368744177664) :
    Calls Tryz.prog 129 #[.agg #[sa, sb], .iface 89 (.pointer (some ⟨q, 0, none⟩)), .slice A m c] w fun e w' => e = .returned (.tuple #[.int .i64 m, .nilIface]) ∧ ∃ g c' v, BB v g 5 (l ++ List.replicate (c' - m) 0) ∧ w.heap.size ≤ g ∧ m ≤ c' ∧ Below w.heap.size w v ∧ w' = v.setCell ⟨q, 0, none⟩ (.slice (some ⟨g, 0, none⟩) m c') := by
  have na := nil_BWrite ⟨q, 0, none⟩
  have ma := method_BWrite ⟨q, 0, none⟩
  go_enter Tryz.func129, Tryz.ntmps129
  go_wp2_with fail
  refine (BWrite q m c B A l _ (hq.alloc _) (hr.alloc hB _) hm hsz).mono ?_
  rintro e w2 ⟨rfl, g', c', v, hov, hg, hc, hb, rfl⟩
  go_wp2_with fail
  go_ret2
  rw [World.size_alloc] at hg
  exact ⟨rfl, g', c', v, hov, by omega, hc, below_new hb, rfl⟩
end Go.Proofs.YtkpcepdalegmmaaGreatDoor

/-! A block whose first bytes are written in place: what []byte(s) makes. -/
namespace Go.Proofs.YtkpcepdalegmmaaGreatDoor
open Go.RowKit

/-- Block g begins with the bytes l, none of them frozen. -/
def WB (w : World) (g : Nat) (l : List UInt8) : Prop := g < w.heap.size ∧ ∀ j, j < l.length → w.cell? ⟨g, j, none⟩ = some (.int .u8 ((l.getD j 0).toNat : Int)) ∧ w.frozen? ⟨g, j, none⟩ = false
section
variable {w w' : World} {g : Nat} {l : List UInt8}
theorem WB.lt (h : WB w g l) : g < w.heap.size := h.1
theorem WB.at_ (h : WB w g l) {j : Nat} (hj : j < l.length) : w.cell? ⟨g, j, none⟩ = some (.int .u8 ((l.getD j 0).toNat : Int)) := (h.2 j hj).1
theorem WB.free (h : WB w g l) {j : Nat} (hj : j < l.length) : w.frozen? ⟨g, j, none⟩ = false := (h.2 j hj).2
theorem WB.set (h : WB w g l) {i : Nat} (b : UInt8) (u : Int) (hu : u = (b.toNat : Int)) : WB (w.setCell ⟨g, i, none⟩ (.int .u8 u)) g (l.set i b) := by
  subst hu
  refine ⟨by rw [World.size_setCell]; exact h.1, fun j hj => ?_⟩
  rw [List.length_set] at hj
  refine ⟨?_, by rw [World.frozen?_setCell]; exact h.free hj⟩
  by_cases hij : i = j
  · subst hij
    rw [World.cell?_setCell_same w _ _ (h.at_ hj)]
    simp [hj]
  · rw [World.cell?_setCell_other _ _ _ _ (fun e => hij (congrArg Addr.off e)), h.at_ hj]
    simp [List.getD_eq_getElem?_getD, hij]
theorem WB.rb (h : WB w g l) {n : Nat} (hn : l.length = n) : RB w w.heap.size (some ⟨g, 0, none⟩) n l := by
  refine ⟨by simp [hn], fun _ => ⟨_, rfl, h.1, fun j u hu => ?_⟩⟩
  have hj : j < l.length := by
    have := (List.getElem?_eq_some_iff.1 hu).1
    simpa using this
  rw [bv_get hj] at hu
  rw [Addr.add_lit, Nat.zero_add, h.at_ hj, ← hu, List.getD_eq_getElem?_getD, List.getElem?_eq_getElem hj]
  rfl
theorem WB.drew (h : WB w g l) : WB w.drew g l := h
theorem WB.below (h : WB w g l) {B : Nat} (hb : Below B w w') (hg : g < B) : WB w' g l :=
  ⟨Nat.lt_of_lt_of_le h.1 hb.size, fun j hj => ⟨(hb.cell (p := ⟨g, j, none⟩) hg).trans (h.at_ hj), (hb.frozen (p := ⟨g, j, none⟩) hg).trans (h.free hj)⟩⟩
end

section
variable {w : World} {o : Oper} {a : Act} {ops : Array Oper} {rest : List Oper} {Q : Exit → Act → World → Prop}
/-- '[]byte(s)', to be written in place. -/
theorem wpl_ofStrW (hgd : o.guard = none) (x : Operand) (hop : o.op = .convert 9 23 x) (s : ByteArray) (hx : a.eval x = .string s)
    (h : ∀ c w', WB w' w.heap.size s.data.toList → Below w.heap.size w w' → s.size ≤ c →
      wpList Tryz.prog ops Q rest (a.put o.dst (.slice (some ⟨w.heap.size, 0, none⟩) s.size c)) w') : wpList Tryz.prog ops Q (o :: rest) a w := by
  refine wpList_plain hgd fun K hK => ?_
  have hr := run_bytes_of_string (P := Tryz.prog) w 9 23 5 s Tryz.u_string Tryz.u_bytes Tryz.u_u8
  unfold Oper.wp execOp
  simp only [hop, hx, Sem.run_bind, hr, Result.andThen_ok, Sem.run_pure]
  refine hK _ _ (h _ _ ⟨by simp, fun j hj => ⟨?_, ?_⟩⟩ (((Below.refl _ w).drew).alloc (Nat.le_refl _) _) (grownCap_ge w s.size 0 5))
  · have hj' : j < s.data.size := by simpa using hj
    have hb := bytesRow_at s (grownCap w s.size 0 5) j hj'
    refine (World.cell?_alloc_mark w.drew (bytesRow s (grownCap w s.size 0 5)) 5 ((bytesRow s (grownCap w s.size 0 5)).size, (bytesRow s (grownCap w s.size 0 5)).size + 1) j).trans (hb.trans ?_)
    rw [List.getD_eq_getElem?_getD, List.getElem?_eq_getElem hj]
    rfl
  · have hj' : j < s.data.size := by simpa using hj
    refine (World.frozen?_alloc_mark w.drew (bytesRow s (grownCap w s.size 0 5)) 5 _ _ j).trans ?_
    have : j < (bytesRow s (grownCap w s.size 0 5)).size := by
      have hs : s.size = s.data.size := rfl
      simp [bytesRow]; omega
    simp; omega
end
end Go.Proofs.YtkpcepdalegmmaaGreatDoor

/-! Properties: spec.Small. -/
namespace Go.Proofs.YtkpcepdalegmmaaGreatDoor
open Go.RowKit

/-- Small letters. -/
def smallB (c : UInt8) : UInt8 := if 65 ≤ c.toNat ∧ c.toNat ≤ 90 then c + 32 else c
def smallL (l : List UInt8) : List UInt8 := l.map smallB
theorem small_add {c : UInt8} (h : c.toNat ≤ 90) : (c.toNat : Int) + 97 - 65 = ((c + 32).toNat : Int) := by
  have : (c + 32).toNat = c.toNat + 32 := by rw [UInt8.toNat_add]; simp; omega
  rw [this]; omega
theorem cut_at {l pre : List UInt8} {k : Nat} (hp : pre.length = k) : (pre ++ l.drop k).length = k + (l.length - k) := by simp [hp]
theorem cut_get {l pre : List UInt8} {k : Nat} (hp : pre.length = k) : (pre ++ l.drop k).getD k 0 = l.getD k 0 := by
  rw [List.getD_eq_getElem?_getD, List.getElem?_append_right (by omega), List.getElem?_drop, hp, Nat.sub_self, Nat.add_zero, ← List.getD_eq_getElem?_getD]
theorem cut_next {l pre : List UInt8} {k : Nat} (hk : k < l.length) : pre ++ l.drop k = (pre ++ [l.getD k 0]) ++ l.drop (k + 1) := by
  rw [List.append_assoc, List.drop_eq_getElem_cons hk, List.getD_eq_getElem?_getD, List.getElem?_eq_getElem hk]
  rfl
theorem cut_set {l pre : List UInt8} {k : Nat} (hp : pre.length = k) (hk : k < l.length) (b : UInt8) : (pre ++ l.drop k).set k b = (pre ++ [b]) ++ l.drop (k + 1) := by
  rw [List.set_append_right _ _ (by omega), hp, Nat.sub_self, List.drop_eq_getElem_cons hk, List.set_cons_zero, List.append_assoc]
  rfl
theorem drop_getD {l : List UInt8} {k : Nat} (hk : k < l.length) : l.drop k = l.getD k 0 :: l.drop (k + 1) := by
  rw [List.drop_eq_getElem_cons hk, List.getD_eq_getElem?_getD, List.getElem?_eq_getElem hk]
  rfl

end Go.Proofs.YtkpcepdalegmmaaGreatDoor
