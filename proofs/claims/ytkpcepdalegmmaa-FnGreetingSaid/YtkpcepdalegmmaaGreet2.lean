/- Greetings: ZZGreeting, impl.FormatGreeting. -/
import Derived.Test.YtkpcepdalegmmaaGreet1
import Derived.Test.YtkpcepdalegmmaaMade
namespace Go.Proofs.Ytkpcepdalegmmaa
open Go.RowKit

/-- An operation whose run is known. -/
theorem wpl_val {w : World} {o : Oper} {a : Act} {ops : Array Oper} {rest : List Oper} {Q : Exit → Act → World → Prop} (hgd : o.guard = none) (v : Value) (hr : (execOp a.eval o).run Try.prog w = .ok (.value v) w)
    (h : wpList Try.prog ops Q rest (a.put o.dst v) w) : wpList Try.prog ops Q (o :: rest) a w := by
  refine wpList_plain hgd fun K hK => ?_
  unfold Oper.wp
  rw [hr]
  exact hK _ _ h

def g0 (a b : UInt8) : List UInt8 := List.replicate 10 0 ++ (a :: b :: List.replicate 52 0)
theorem info_greeting : (Try.prog.info? 105).map (fun i => (i.zero, i.size)) = some (some (.agg (bv z64).toArray), 64) := by kernel_rfl
theorem build_greeting (a b : UInt8) (w : World) : (Instr.build 105 #[(1, .agg #[.int .u8 (a.toNat : Int), .int .u8 (b.toNat : Int)])]).run Try.prog w = .ok (.agg (bv (g0 a b)).toArray) w := by kernel_rfl
theorem g0_length (a b : UInt8) : (g0 a b).length = z64.length := rfl
theorem g0_set (a b : UInt8) : ((g0 a b).set 0 255).set 9 127 = preB a b ++ List.replicate 52 0 := rfl

set_option maxRecDepth 100000 in
theorem ZZGreeting (major minor : UInt8) (mech : ByteArray) (server : Bool) (w : World) (hm : mech.size ≤ 20) :
    Calls Try.prog 38 #[.int .u8 major.toNat, .int .u8 minor.toNat, .string mech, .bool server] w fun e w' =>
      ∃ b, e = .returned (.tuple #[.slice (some ⟨b, 0, none⟩) 64 64, .nilIface]) ∧ w.heap.size ≤ b ∧ BB w' b 139 (greetM major minor (padTo mech.data.toList) (boolB server)) ∧ Below w.heap.size w w' := by
  have hml : mech.data.toList.length ≤ 20 := by simpa using hm
  go_enter Try.func38, Try.ntmps38
  go_wp2_with (first
    | (with_reducible refine wpl_val (o := ⟨some 14, _, _, _, _, _⟩) rfl (.agg (bv (g0 major minor)).toArray) ?_ ?_
       · simp only [execOp, List.map_toArray, List.map_cons, List.map_nil, Act.eval]
         simp [build_greeting]
       skip)
    | (with_reducible refine wpl_allocB (o := ⟨some 10, _, _, _, _, _⟩) rfl _ rfl z64 64 info_greeting ?_
       intro w1 hb1 hbl1 hs1
       refine wpl_storeB (o := ⟨none, .store 105 (.tmp 10) (.tmp 14), _, _, _, _⟩) rfl _ _ _ rfl w.heap.size z64 (g0 major minor) ?_ ?_ hb1 (g0_length _ _) ?_ ?_
       · rfl
       · rfl
       · exact (zero_of_info info_greeting).2
       intro w2 hb2 ha2 hs2
       have hbl2 : Below w.heap.size w w2 := hbl1.trans (ha2.below hbl1.size (by simp))
       have c0 := hb2.cell (i := 0) (by rw [g0_length]; decide)
       have c9 := hb2.cell (i := 9) (by rw [g0_length]; decide)
       have f0 := hb2.frozen 0
       have f9 := hb2.frozen 9
       have f32 := hb2.frozen 32
       have hb3 := (hb2.set 0 255).set 9 127
       rw [g0_set] at hb3
       clear hs2 hs1)
    | (with_reducible refine wpl_copyB (o := ⟨some 26, _, _, _, _, _⟩) rfl (.tmp 24) (.tmp 25) 9 rfl w.heap.size 12 20 20 105 (.string mech) mech.size (preB major minor ++ List.replicate 52 0) mech.data.toList mech.size ?_ ?_ ?_ (lenOf_string mech) ?_ (first_string mech _) ?_ ?_ ?_
       · rfl
       · rfl
       · exact hb3
       · exact Nat.min_eq_left hm
       · simp
       · simp only [List.length_append, List.length_replicate]
         show 12 + mech.size ≤ 12 + 52
         omega
       intro w3 hb4 ha4 hs4
       rw [pre_splice _ _ _ hml] at hb4
       have hbl4 : Below w.heap.size w w3 := (below_setN (o := 9) (below_setN (o := 0) hbl2 (Nat.le_refl _) (.int .u8 255)) (Nat.le_refl _) (.int .u8 127)).trans (ha4.below (by simpa using hbl2.size) (by simp))
       have c32 := hb4.cell (i := 32) (by rw [greetM_length (padTo_length hml)]; decide)
       have f32' := hb4.frozen 32
       clear hs4)
    | fail)
  · have hs : server = true := by assumption
    subst hs
    have hb5 := hb4.set 32 1
    rw [greetM_set (padTo_length hml)] at hb5
    refine (marshal w.heap.size _ (greetM_length (padTo_length hml)) _ hb5).mono ?_
    rintro e w' ⟨b, rfl, hbb, hbm, hbl⟩
    rw [marshal_greet (padTo_length hml)] at hbm
    have hbl5 := below_setN (o := 32) hbl4 (Nat.le_refl _) (.int .u8 1)
    have hz := hbl5.size
    clear c0 c9 f0 f9 f32 c32 f32'
    go_wp2_with fail
    go_ret2
    exact ⟨b, rfl, Nat.le_trans hz hbb, hbm, below_seq hbl5 hbl hz⟩
  · have hs : server = false := by assumption
    subst hs
    refine (marshal w.heap.size _ (greetM_length (padTo_length hml)) _ hb4).mono ?_
    rintro e w' ⟨b, rfl, hbb, hbm, hbl⟩
    rw [marshal_greet (padTo_length hml)] at hbm
    have hz := hbl4.size
    clear c0 c9 f0 f9 f32 c32 f32'
    go_wp2_with fail
    go_ret2
    exact ⟨b, rfl, Nat.le_trans hz hbb, hbm, below_seq hbl4 hbl hz⟩
end Go.Proofs.Ytkpcepdalegmmaa
