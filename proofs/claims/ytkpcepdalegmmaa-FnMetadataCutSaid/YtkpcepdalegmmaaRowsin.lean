/- What an argument that is a []byte reads as. -/
import Derived.Test.YtkpcepdalegmmaaBytes
namespace Go.Proofs.Ytkpcepdalegmmaa
open Go.RowKit

theorem bytes_of_ints : ∀ (zs : List Int), (∀ n ∈ zs, (Lit.int .u8 n).wf = true) → ∃ l : List UInt8, bv l = zs.map (Value.int .u8)
  | [], _ => ⟨[], rfl⟩
  | z :: zs, h => by
    obtain ⟨l, hl⟩ := bytes_of_ints zs fun n hn => h n (List.mem_cons_of_mem _ hn)
    have hz := h z (List.mem_cons_self ..)
    have hb : 0 ≤ z ∧ z ≤ 255 := by simpa [Lit.wf, IntKind.min, IntKind.max, IntKind.signed, IntKind.bits] using hz
    refine ⟨UInt8.ofNat z.toNat :: l, ?_⟩
    simp only [bv, List.map_cons] at hl ⊢
    rw [hl]
    have e : ((UInt8.ofNat z.toNat).toNat : Int) = z := by simp; omega
    rw [e]

/-- The cells of a slice of bytes that came in. -/
theorem rb_of_cells {w : World} {ad : Addr} {n c : Nat} {zs : List Int} (hn : n ≤ c) (hz : zs.length = c) (hc : ∀ i, i < zs.length → w.cell? (ad.add i) = some (.int .u8 (zs.getD i 0))) (hw : ∀ n ∈ zs, (Lit.int .u8 n).wf = true) :
    ∃ l, RB w w.heap.size (some ad) n l := by
  obtain ⟨l, hl⟩ := bytes_of_ints (zs.take n) fun x hx => hw x (List.mem_of_mem_take hx)
  have hlen : l.length = n := by
    have := congrArg List.length hl
    simp at this
    omega
  refine ⟨l, by simp [hlen], fun h0 => ⟨ad, rfl, ?_, fun j u hu => ?_⟩⟩
  · have := hc 0 (by omega)
    rw [Addr.add_zero'] at this
    exact World.block_lt_of_cell? w ad this
  · have hj : j < n := by
      have := (List.getElem?_eq_some_iff.1 hu).1
      simpa [hlen] using this
    rw [hl, List.getElem?_map, List.getElem?_take_of_lt hj] at hu
    rw [hc j (by omega), ← hu, List.getElem?_eq_getElem (by omega), List.getD_eq_getElem?_getD, List.getElem?_eq_getElem (by omega)]
    rfl
end Go.Proofs.Ytkpcepdalegmmaa
