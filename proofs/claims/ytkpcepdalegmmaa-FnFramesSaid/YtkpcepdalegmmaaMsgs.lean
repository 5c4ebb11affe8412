/- What a connection reads: messages, whole or cut. -/
import Derived.Test.YtkpcepdalegmmaaConn1
import Derived.Test.YtkpcepdalegmmaaBe
namespace Go.Proofs.Ytkpcepdalegmmaa
open Go.RowKit

def wfF (f : Fr) : Prop := f.body.length = f.n ∧ f.n ≤ 1000
def longF (f : Fr) : Bool := decide (255 < f.n)
/-- A frame's second byte, and the seven behind it of a long one. -/
def secF (f : Fr) : UInt8 := if 255 < f.n then 0 else UInt8.ofNat f.n
def seven (n : Nat) : List UInt8 := [0, 0, 0, 0, 0, UInt8.ofNat (n / 256), UInt8.ofNat n]
theorem be8_seven (n : Nat) : be8 n = 0 :: seven n := rfl

theorem encF_short {f : Fr} (h : ¬ 255 < f.n) : encF f = [flagV (longF f) f.cmd f.more, secF f] ++ f.body := by
  unfold encF headF secF flagV longF
  rw [if_pos (by omega), decide_eq_false h, if_neg h]
  rfl
theorem encF_long {f : Fr} (h : 255 < f.n) : encF f = [flagV (longF f) f.cmd f.more, secF f] ++ (seven f.n ++ f.body) := by
  unfold encF headF secF flagV longF
  rw [if_neg (by omega), decide_eq_true h, if_pos h]
  rfl

/-- The bytes of a frame that ends too early. -/
def CutOf (f : Fr) (rem : List UInt8) : Prop := rem.length < (encF f).length ∧ rem = (encF f).take rem.length

/-- Bytes that a message's reading meets: frames (all but the last have more to follow) and a rest; or they end within a frame. -/
inductive Msgs (rest : List UInt8) : Bool → List UInt8 → List Fr → Bool → Prop
  | done : Msgs rest false rest [] true
  | cut (f : Fr) (rem : List UInt8) (hw : wfF f) (hc : CutOf f rem) : Msgs rest true rem [] false
  | step (f : Fr) (rem : List UInt8) (fs : List Fr) (ok : Bool) (hw : wfF f) (h : Msgs rest f.more rem fs ok) : Msgs rest true (encF f ++ rem) (f :: fs) ok

/-- One frame's turn: it is whole, or it is cut. -/
theorem Msgs.turn {rest rem : List UInt8} {todo : List Fr} {ok : Bool} (h : Msgs rest true rem todo ok) :
    ∃ f, wfF f ∧ ((∃ rem' todo', rem = encF f ++ rem' ∧ todo = f :: todo' ∧ Msgs rest f.more rem' todo' ok) ∨ (ok = false ∧ todo = [] ∧ CutOf f rem)) := by
  cases h with
  | cut f _ hw hc => exact ⟨f, hw, .inr ⟨rfl, rfl, hc⟩⟩
  | step f rem' fs _ hw h => exact ⟨f, hw, .inl ⟨rem', fs, rfl, rfl, h⟩⟩
theorem Msgs.ended {rest rem : List UInt8} {todo : List Fr} {ok : Bool} (h : Msgs rest false rem todo ok) : rem = rest ∧ todo = [] ∧ ok = true := by
  cases h
  exact ⟨rfl, rfl, rfl⟩

theorem CutOf.two {f : Fr} {rem : List UInt8} (h : CutOf f rem) {a b : UInt8} {t : List UInt8} (he : encF f = [a, b] ++ t) (hl : ¬ rem.length < 2) : rem = [a, b] ++ t.take (rem.length - 2) ∧ rem.length - 2 < t.length := by
  have h1 := h.1
  have h2 := h.2
  rw [he] at h1 h2
  simp at h1
  refine ⟨?_, by omega⟩
  have e : rem.length = (rem.length - 2) + 1 + 1 := by omega
  rw [e] at h2
  simpa using h2

/-- The body's part of a turn. -/
def Tail (rest : List UInt8) (f : Fr) (r : List UInt8) (todo : List Fr) (ok : Bool) : Prop :=
  (r.length < f.n ∧ ok = false) ∨ ∃ r' todo', r = f.body ++ r' ∧ todo = f :: todo' ∧ Msgs rest f.more r' todo' ok

theorem Msgs.parts {rest rem : List UInt8} {todo : List Fr} {ok : Bool} (h : Msgs rest true rem todo ok) :
    (rem.length < 2 ∧ ok = false) ∨ ∃ f, wfF f ∧ ∃ r1, rem = [flagV (longF f) f.cmd f.more, secF f] ++ r1 ∧
      ((¬ 255 < f.n ∧ Tail rest f r1 todo ok) ∨ (255 < f.n ∧ ((r1.length < 7 ∧ ok = false) ∨ ∃ r2, r1 = seven f.n ++ r2 ∧ Tail rest f r2 todo ok))) := by
  obtain ⟨f, hw, ⟨rem', todo', rfl, rfl, hm⟩ | ⟨rfl, rfl, hc⟩⟩ := h.turn
  · refine .inr ⟨f, hw, ?_⟩
    by_cases hl : 255 < f.n
    · refine ⟨seven f.n ++ (f.body ++ rem'), by rw [encF_long hl]; simp, .inr ⟨hl, .inr ⟨_, rfl, .inr ⟨_, _, rfl, rfl, hm⟩⟩⟩⟩
    · exact ⟨f.body ++ rem', by rw [encF_short hl]; simp, .inl ⟨hl, .inr ⟨_, _, rfl, rfl, hm⟩⟩⟩
  · by_cases h2 : rem.length < 2
    · exact .inl ⟨h2, rfl⟩
    · refine .inr ⟨f, hw, ?_⟩
      by_cases hl : 255 < f.n
      · obtain ⟨e, hlt⟩ := hc.two (encF_long hl) h2
        refine ⟨_, e, .inr ⟨hl, ?_⟩⟩
        have h7 : (seven f.n).length = 7 := rfl
        rw [List.length_append, h7, hw.1] at hlt
        by_cases h3 : rem.length - 2 < 7
        · refine .inl ⟨?_, rfl⟩
          rw [List.length_take]
          omega
        · refine .inr ⟨f.body.take (rem.length - 2 - 7), ?_, .inl ⟨?_, rfl⟩⟩
          · rw [List.take_append, h7, List.take_of_length_le (by rw [h7]; omega)]
          · rw [List.length_take]
            omega
      · obtain ⟨e, hlt⟩ := hc.two (encF_short hl) h2
        refine ⟨_, e, .inl ⟨hl, .inl ⟨?_, rfl⟩⟩⟩
        rw [List.length_take]
        have := hw.1
        omega
end Go.Proofs.Ytkpcepdalegmmaa
