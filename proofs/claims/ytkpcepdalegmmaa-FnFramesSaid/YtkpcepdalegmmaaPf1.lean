/- Frames: what ParseFrames holds. -/
import Derived.Test.YtkpcepdalegmmaaZr
namespace Go.Proofs.Ytkpcepdalegmmaa
open Go.RowKit

/-- A stream of messages: read to its end (true), or ended within a message. -/
inductive Stream : List UInt8 → List (List Fr) → Bool → Prop
  | nil : Stream [] [] true
  | msg (inb rest : List UInt8) (fs : List Fr) (ms : List (List Fr)) (ok : Bool) (hm : Msgs rest true inb fs true) (h : Stream rest ms ok) : Stream inb (fs :: ms) ok
  | bad (inb rest : List UInt8) (fs : List Fr) (hne : inb ≠ []) (hm : Msgs rest true inb fs false) : Stream inb [] false

theorem encF_two (f : Fr) : 2 ≤ (encF f).length := by
  by_cases h : 255 < f.n
  · rw [encF_long h]; simp
  · rw [encF_short h]; simp
theorem Msgs.le {rest inb : List UInt8} {m ok : Bool} {fs : List Fr} (h : Msgs rest m inb fs ok) (hk : ok = true) : rest.length ≤ inb.length ∧ (m = true → rest.length + 2 ≤ inb.length) := by
  induction h with
  | done => exact ⟨Nat.le_refl _, fun h => by cases h⟩
  | cut f rem hw hc => cases hk
  | step f rem fs ok hw h ih =>
    have := ih hk
    have h2 := encF_two f
    rw [List.length_append]
    exact ⟨by omega, fun _ => by omega⟩

theorem Stream.head {inb : List UInt8} {ms : List (List Fr)} {ok : Bool} (h : Stream inb ms ok) (hne : inb ≠ []) :
    ∃ rest fs okm, Msgs rest true inb fs okm ∧ ((okm = true → ∃ ms', ms = fs :: ms' ∧ Stream rest ms' ok) ∧ (okm = false → ok = false)) := by
  cases h with
  | nil => exact absurd rfl hne
  | msg _ rest fs ms2 _ hm h => exact ⟨rest, fs, true, hm, fun _ => ⟨ms2, rfl, h⟩, fun h => by cases h⟩
  | bad _ rest fs hne2 hm => exact ⟨rest, fs, false, hm, (fun h => by cases h), fun _ => rfl⟩
theorem Msgs.count {rest inb : List UInt8} {m ok : Bool} {fs : List Fr} (h : Msgs rest m inb fs ok) (hk : ok = true) : rest.length + 2 * fs.length ≤ inb.length := by
  induction h with
  | done => simp
  | cut f rem hw hc => cases hk
  | step f rem fs ok hw h ih =>
    have := ih hk
    have h2 := encF_two f
    rw [List.length_append, List.length_cons]
    omega

/-- What one message gives: whether it is a command, whether more follows, the body. -/
def keyOf (f : Fr) : Bool × Bool × List UInt8 := (f.cmd, f.more, f.body)
def keysOf (fs : List Fr) : List (Bool × Bool × List UInt8) := (List.range fs.length).map fun i => (fs.any Fr.cmd, decide (i + 1 < fs.length), (fs.map (·.body)).getD i [])
def keysAll (ms : List (List Fr)) : List (Bool × Bool × List UInt8) := ms.flatMap keysOf

theorem own_own_ne {w : World} {b1 b2 s1 s2 n1 n2 c1 c2 : Nat} {t1 t2 : TypeId} {A1 A2 : Option Addr} {x1 x2 : List Value} (h1 : w.ownsRow b1 t1 s1 (.slice A1 n1 c1) n1 x1) (h2 : w.ownsRow b2 t2 s2 (.slice A2 n2 c2) n2 x2) (hne : t1 ≠ t2) :
    ∀ ad, A1 = some ad → some ad.block ≠ A2.map (·.block) := by
  intro ad e he
  subst e
  rcases h1.2 with ⟨hv, _⟩ | ⟨g1, cap1, cur1, hv1, _, hh1, _⟩
  · cases hv
  · injection hv1 with hA1
    injection hA1 with hA1
    subst hA1
    cases A2 with
    | none => cases he
    | some a2 =>
      rcases h2.2 with ⟨hv, _⟩ | ⟨g2, cap2, cur2, hv2, _, hh2, _⟩
      · cases hv
      · injection hv2 with hA2
        injection hA2 with hA2
        subst hA2
        simp at he
        subst he
        exact Blk.ne_ (t := t1) (t' := t2) hh1 hh2 hne rfl
theorem own_kept {w w' : World} {b s n c : Nat} {t : TypeId} {A : Option Addr} {xs : List Value} {row : Option Nat} (h : w.ownsRow b t s (.slice A n c) n xs) (hg : w.grownBy w' row) (hne : ∀ ad, A = some ad → some ad.block ≠ row) : w'.ownsRow b t s (.slice A n c) n xs := by
  refine ⟨h.1, ?_⟩
  rcases h.2 with h2 | ⟨g, cap, cur, e, hb, hh, r⟩
  · exact .inl h2
  · injection e with hA _ hc
    subst hA
    subst hc
    exact .inr ⟨g, c, cur, rfl, hb, (hg.block g (Array.getElem?_eq_some_iff.1 hh).1 (hne _ rfl)).trans hh, r⟩
theorem own_apart {w w' : World} {b s n c : Nat} {t : TypeId} {A : Option Addr} {xs : List Value} {ps : List Nat} (h : w.ownsRow b t s (.slice A n c) n xs) (ha : Apart ps w w') (hne : ∀ ad, A = some ad → ad.block ∉ ps) : w'.ownsRow b t s (.slice A n c) n xs :=
  ha.own h fun g hg => by
    cases A with
    | none => cases hg
    | some ad =>
      simp only [Value.ownBlock, Option.some.injEq] at hg
      rw [← hg]
      exact hne ad rfl
theorem own_blk_ne' {w : World} {b s n c g : Nat} {t T : TypeId} {A : Option Addr} {xs : List Value} {cs : Array Value} (h : w.ownsRow b t s (.slice A n c) n xs) (hb : Blk w g T cs) (hne : t ≠ T) : ∀ ad, A = some ad → ad.block ≠ g := by
  intro ad e hg
  have := own_blk_ne h hb hne
  subst e
  exact this (by simp [Value.ownBlock, hg])
end Go.Proofs.Ytkpcepdalegmmaa
