/- Bytes: make([]byte, 0, n), make([]byte, n), []byte(s), at the operation. -/
import Derived.Test.YtkpcepdalegmmaaDoorBytes
namespace Go.Proofs.YtkpcepdalegmmaaDoor
open Go.RowKit

section
variable {w : World} {o : Oper} {a : Act} {ops : Array Oper} {rest : List Oper} {Q : Exit → Act → World → Prop}

theorem wpl_make0 (hgd : o.guard = none) (l c : Operand) (hop : o.op = .makeSlice 30 l c) (base : Nat) (C : Int) (n : Nat) (hl : a.eval l = .int .i64 0) (hc : a.eval c = .int .i64 C) (hC : C = (n : Int))
    (hn : n ≤ 70368744177664) (hbase : base ≤ w.heap.size)
    (h : ∀ w', OB w' base (some ⟨w.heap.size, 0, none⟩) 0 n [] → w.grownBy w' none → wpList Tryd.prog ops Q rest (a.put o.dst (.slice (some ⟨w.heap.size, 0, none⟩) 0 n)) w') : wpList Tryd.prog ops Q (o :: rest) a w := by
  obtain ⟨i, hi, hz0, hz1, hz2⟩ := info_parts Tryd.info_u8
  exact wpList_make_own w hgd l c 30 hop base 5 i _ 1 Tryd.u_bytes hi hz0 hz1 .i64 .i64 C n hl hc hC (by rw [hz2]; omega) (by simp only [maxLen]; omega) hbase fun w' h1 h2 => h w' h1 h2

theorem bytesRow_toList (s : ByteArray) (cap : Nat) : (bytesRow s cap).toList = bv s.data.toList ++ List.replicate (cap - s.size) (.int .u8 0) := by
  simp [bytesRow, bv]

/-- '[]byte(s)': the new array, its mark behind it. -/
theorem wpl_ofStr (hgd : o.guard = none) (x : Operand) (hop : o.op = .convert 9 30 x) (s : ByteArray) (hx : a.eval x = .string s)
    (h : ∀ c w', RB w' w'.heap.size (some ⟨w.heap.size, 0, none⟩) s.size s.data.toList → w.grownBy w' none → w.heap.size < w'.heap.size → s.size ≤ c →
      wpList Tryd.prog ops Q rest (a.put o.dst (.slice (some ⟨w.heap.size, 0, none⟩) s.size c)) w') : wpList Tryd.prog ops Q (o :: rest) a w := by
  refine wpList_plain hgd fun K hK => ?_
  have hr := run_bytes_of_string (P := Tryd.prog) w 9 30 5 s Tryd.u_string Tryd.u_bytes Tryd.u_u8
  unfold Oper.wp execOp
  simp only [hop, hx, Sem.run_bind, hr, Result.andThen_ok, Sem.run_pure]
  refine hK _ _ (h _ _ ⟨by simp, fun hn => ⟨_, rfl, by simp, fun j u hu => ?_⟩⟩ (grownBy_alloc (grownBy_drew (grownBy_refl w none)) _) (by simp) (grownCap_ge w s.size 0 5))
  have hj : j < s.data.size := by
    have := (List.getElem?_eq_some_iff.1 hu).1
    simpa using this
  have hb := bytesRow_at s (grownCap w s.size 0 5) j hj
  rw [bv_get (by simpa using hj)] at hu
  have hc := World.cell?_alloc_mark w.drew (bytesRow s (grownCap w s.size 0 5)) 5 ((bytesRow s (grownCap w s.size 0 5)).size, (bytesRow s (grownCap w s.size 0 5)).size + 1) j
  rw [← hu]
  have e : (⟨w.heap.size, 0, none⟩ : Addr).add j = ⟨w.heap.size, j, none⟩ := by rw [Addr.add_lit]; simp
  rw [e]
  refine hc.trans (hb.trans ?_)
  simp
end
end Go.Proofs.YtkpcepdalegmmaaDoor
