/- Frames: laws.frames. -/
import Derived.Test.YtkpcepdalegmmaaFr1
namespace Go.Proofs.Ytkpcepdalegmmaa
open Go.RowKit

theorem own_base {w : World} {base size n c : Nat} {e : TypeId} {A : Option Addr} {xs : List Value} (h : w.ownsRow base e size (.slice A n c) n xs) {g : Nat} (hg : A.map (·.block) = some g) : base ≤ g := by
  rcases h.2 with ⟨hv, _⟩ | ⟨g', cap, cur, hv, hb, _⟩
  · injection hv with hA
    subst hA
    cases hg
  · injection hv with hA
    subst hA
    simp at hg
    omega

theorem elSpec : Elem 39 73 3 32 := ⟨Try.underlying39, ⟨.agg #[.bool false, .bool false, .slice none 0 0], by kernel_rfl, rfl⟩, by decide⟩
theorem elImpl : Elem 37 71 3 32 := ⟨Try.underlying37, ⟨.agg #[.bool false, .bool false, .slice none 0 0], by kernel_rfl, rfl⟩, by decide⟩

theorem Fr.one (f : Fr) : ∀ u ∈ (#[Value.bool f.cmd, .bool f.more, .slice f.A f.n f.c]).toList, u.oneCell' = true := by
  intro u hu
  simp at hu
  rcases hu with rfl | rfl | rfl <;> rfl

set_option maxRecDepth 100000 in
theorem frames (A : Option Addr) (n c : Nat) (fs : List Fr) (w : World) (hr : FrS w w.heap.size A n fs) (hn : n ≤ 2147483647) :
    Calls Try.prog 19 #[.slice A n c] w fun e w' => ∃ A' c', e = .returned (.slice A' n c') ∧ w'.ownsRow w.heap.size 73 3 (.slice A' n c') n (cellsOf fs) ∧ Below w.heap.size w w' := by
  go_enter Try.func19, Try.ntmps19
  go_wp2_with fail
  go_loopw [3, 8] (fun v i wr => ∃ (k : Nat) (A' : Option Addr) (c' : Nat), k ≤ n ∧ i = .int .i64 k ∧ v = .slice A' k c' ∧ wr.ownsRow w.heap.size 73 3 (.slice A' k c') k (cellsOf (fs.take k)) ∧ Below w.heap.size w wr) (fun _ i _ => n - (intOf i).toNat)
  case atStart => exact ⟨0, none, 0, Nat.zero_le _, rfl, rfl, World.ownsRow_nil w _ _ _, Below.refl _ _⟩
  case round =>
    obtain ⟨k, A', c', hk, rfl, rfl, ho, hbl⟩ := hrel
    by_cases hkn : k < n
    · obtain ⟨ad, f, rfl, hadb, hf, h1, h2, h3⟩ := (hr.after hbl).at_ hkn
      have g0 := (Blk.new wr 71 #[.bool f.cmd, .bool f.more, .slice f.A f.n f.c]).cell 0
      have g1 := (Blk.new wr 71 #[.bool f.cmd, .bool f.more, .slice f.A f.n f.c]).cell 1
      have g2 := (Blk.new wr 71 #[.bool f.cmd, .bool f.more, .slice f.A f.n f.c]).cell 2
      simp only [List.getElem?_toArray, List.getElem?_cons_zero, List.getElem?_cons_succ] at g0 g1 g2
      have hsrc := srcNew elSpec (w := wr.alloc (.cells #[.bool f.cmd, .bool f.more, .slice f.A f.n f.c] 71)) #[.bool f.cmd, .bool f.more, .slice f.A f.n f.c] rfl f.one
      rw [World.size_alloc] at hsrc
      go_wp2_with (first
        | (at_builtin
           refine wpl_appT rfl elSpec (.tmp 12) (.tmp 20) 39 rfl w.heap.size _ k _ _ rfl ((ho.alloc _).alloc _) _ 1 _ rfl hsrc (k + 1) rfl (by omega) (by decide) (by have := hbl.size; simp; omega) ?_
           intro A2 c2 w2 ho2 hg2 ha2))
      have hb2 : Below w.heap.size w w2 := ((hbl.alloc hbl.size _).alloc (by have := hbl.size; simp; omega) _).grown hg2 (by have := hbl.size; simp; omega) (fun g hg => own_base ho hg)
      have ho3 : w2.ownsRow w.heap.size 73 3 (.slice A2 (k + 1) c2) (k + 1) (cellsOf (fs.take (k + 1))) := by
        have hk2 : k < fs.length := by rw [hr.len]; exact hkn
        rw [List.take_succ_eq_append_getElem hk2, (List.getElem?_eq_some_iff.1 hf).2, ← cellsOf_snoc]
        exact ho2
      clear ho2 hsrc g0 g1 g2 h1 h2 h3
      go_roundw
      case rel => exact ⟨k + 1, A2, c2, by omega, by go_num, rfl, ho3, hb2⟩
      case measure => simp [intOf]; omega
    · have hkn' : k = n := by omega
      rw [List.take_of_length_le (by rw [hr.len]; omega)] at ho
      subst hkn'
      go_wp2_with fail
      go_ret
      exact ⟨A', c', rfl, ho, hbl⟩
end Go.Proofs.Ytkpcepdalegmmaa
