/- Parts of a proof, laid behind one another: What a connection reads: messages, whole or cut. (*Conn).read: what it needs. -/
import Derived.Test.YtkpcepdalegmmaaGreatDoorM07
import Derived.Deep.RegionHeld3
/-! What a connection reads: messages, whole or cut. -/
namespace Go.Proofs.YtkpcepdalegmmaaGreatDoor
open Go.RowKit

def wfF (f : Fr) : Prop := f.body.length = f.n ∧ f.n ≤ 1000
def longF (f : Fr) : Bool := decide (255 < f.n)
/-- A frame's second byte, and the seven behind it of a long one. -/
def secF (f : Fr) : UInt8 := if 255 < f.n then 0 else UInt8.ofNat f.n
def seven (n : Nat) : List UInt8 := [0, 0, 0, 0, 0, UInt8.ofNat (n / 256), UInt8.ofNat n]
theorem be8_seven (n : Nat) : be8 n = 0 :: seven n := rfl

theorem encF_short {f : Fr} (h : ¬ 255 < f.n) : encF f = [flagV (longF f) f.cmd f.more, secF f] ++ f.body := by
  unfold encF headF secF flagV longF
  rw [if_pos (by omega), decide_eq_false h, if_neg h]
  rfl
theorem encF_long {f : Fr} (h : 255 < f.n) : encF f = [flagV (longF f) f.cmd f.more, secF f] ++ (seven f.n ++ f.body) := by
  unfold encF headF secF flagV longF
  rw [if_neg (by omega), decide_eq_true h, if_pos h]
  rfl

/-- The bytes of a frame that ends too early. -/
def CutOf (f : Fr) (rem : List UInt8) : Prop := rem.length < (encF f).length ∧ rem = (encF f).take rem.length

/-- Bytes that a message's reading meets: frames (all but the last have more to follow) and a rest; or they end within a frame. -/
inductive Msgs (rest : List UInt8) : Bool → List UInt8 → List Fr → Bool → Prop
  | done : Msgs rest false rest [] true
  | cut (f : Fr) (rem : List UInt8) (hw : wfF f) (hc : CutOf f rem) : Msgs rest true rem [] false
  | step (f : Fr) (rem : List UInt8) (fs : List Fr) (ok : Bool) (hw : wfF f) (h : Msgs rest f.more rem fs ok) : Msgs rest true (encF f ++ rem) (f :: fs) ok

/-- One frame's turn: it is whole, or it is cut. -/
theorem Msgs.turn {rest rem : List UInt8} {todo : List Fr} {ok : Bool} (h : Msgs rest true rem todo ok) :
    ∃ f, wfF f ∧ ((∃ rem' todo', rem = encF f ++ rem' ∧ todo = f :: todo' ∧ Msgs rest f.more rem' todo' ok) ∨ (ok = false ∧ todo = [] ∧ CutOf f rem)) := by
  cases h with
  | cut f _ hw hc => exact ⟨f, hw, .inr ⟨rfl, rfl, hc⟩⟩
  | step f rem' fs _ hw h => exact ⟨f, hw, .inl ⟨rem', fs, rfl, rfl, h⟩⟩
theorem Msgs.ended {rest rem : List UInt8} {todo : List Fr} {ok : Bool} (h : Msgs rest false rem todo ok) : rem = rest ∧ todo = [] ∧ ok = true := by
  cases h
  exact ⟨rfl, rfl, rfl⟩

theorem CutOf.two {f : Fr} {rem : List UInt8} (h : CutOf f rem) {a b : UInt8} {t : List UInt8} (he : encF f = [a, b] ++ t) (hl : ¬ rem.length < 2) : rem = [a, b] ++ t.take (rem.length - 2) ∧ rem.length - 2 < t.length := by
  have h1 := h.1
  have h2 := h.2
  rw [he] at h1 h2
  simp at h1
  refine ⟨?_, by omega⟩
  have e : rem.length = (rem.length - 2) + 1 + 1 := by omega
  rw [e] at h2
  simpa using h2

/-- The body's part of a turn. -/
def Tail (rest : List UInt8) (f : Fr) (r : List UInt8) (todo : List Fr) (ok : Bool) : Prop :=
  (r.length < f.n ∧ ok = false) ∨ ∃ r' todo', r = f.body ++ r' ∧ todo = f :: todo' ∧ Msgs rest f.more r' todo' ok

theorem Msgs.parts {rest rem : List UInt8} {todo : List Fr} {ok : Bool} (h : Msgs rest true rem todo ok) :
    (rem.length < 2 ∧ ok = false) ∨ ∃ f, wfF f ∧ ∃ r1, rem = [flagV (longF f) f.cmd f.more, secF f] ++ r1 ∧
      ((¬ 255 < f.n ∧ Tail rest f r1 todo ok) ∨ (255 < f.n ∧ ((r1.length < 7 ∧ ok = false) ∨ ∃ r2, r1 = seven f.n ++ r2 ∧ Tail rest f r2 todo ok))) := by
  obtain ⟨f, hw, ⟨rem', todo', rfl, rfl, hm⟩ | ⟨rfl, rfl, hc⟩⟩ := h.turn
  · refine .inr ⟨f, hw, ?_⟩
    by_cases hl : 255 < f.n
    · refine ⟨seven f.n ++ (f.body ++ rem'), by rw [encF_long hl]; simp, .inr ⟨hl, .inr ⟨_, rfl, .inr ⟨_, _, rfl, rfl, hm⟩⟩⟩⟩
    · exact ⟨f.body ++ rem', by rw [encF_short hl]; simp, .inl ⟨hl, .inr ⟨_, _, rfl, rfl, hm⟩⟩⟩
  · by_cases h2 : rem.length < 2
    · exact .inl ⟨h2, rfl⟩
    · refine .inr ⟨f, hw, ?_⟩
      by_cases hl : 255 < f.n
      · obtain ⟨e, hlt⟩ := hc.two (encF_long hl) h2
        refine ⟨_, e, .inr ⟨hl, ?_⟩⟩
        have h7 : (seven f.n).length = 7 := rfl
        rw [List.length_append, h7, hw.1] at hlt
        by_cases h3 : rem.length - 2 < 7
        · refine .inl ⟨?_, rfl⟩
          rw [List.length_take]
          omega
        · refine .inr ⟨f.body.take (rem.length - 2 - 7), ?_, .inl ⟨?_, rfl⟩⟩
          · rw [List.take_append, h7, List.take_of_length_le (by rw [h7]; omega)]
          · rw [List.length_take]
            omega
      · obtain ⟨e, hlt⟩ := hc.two (encF_short hl) h2
        refine ⟨_, e, .inl ⟨hl, .inl ⟨?_, rfl⟩⟩⟩
        rw [List.length_take]
        have := hw.1
        omega
end Go.Proofs.YtkpcepdalegmmaaGreatDoor

/-! (*Conn).read: what it needs. -/
namespace Go.Proofs.YtkpcepdalegmmaaGreatDoor
open Go.RowKit

theorem cutA_zero (A : Option Addr) (c : Nat) : cutA A c 0 = A ∨ c = 0 := by
  by_cases h : c = 0
  · exact .inr h
  · left
    unfold cutA
    rw [if_neg h]
    cases A <;> simp [Addr.add]

/-- readFull where the pipe holds enough. -/
theorem readFull_ok (g d off : Nat) (T : TypeId) (IA : Option Addr) (n c m cap : Nat) (out : Value) (l a b : List UInt8) (w : World) (hg : Blk w g 36 #[.slice IA n c, out]) (hd : BB w d T l)
    (hr : RB w w.heap.size IA n (a ++ b)) (ha : a.length = m) (hn : n ≤ 1099511627776) (hfit : off + m ≤ l.length) (hgd : g ≠ d) :
    Calls Tryz.prog 59 #[.iface 34 (.pointer (some ⟨g, 0, none⟩)), .slice (some ⟨d, off, none⟩) m cap] w fun e w' => e = .returned (.tuple #[.int .i64 m, .nilIface]) ∧ BB w' d T (splice l off a) ∧
      (∃ IA' c', Blk w' g 36 #[.slice IA' (n - m) c', out] ∧ (∀ B w'', RB w'' B IA n (a ++ b) → n ≤ c → RB w'' B IA' (n - m) b) ∧ (n ≤ c → n - m ≤ c') ∧ (∀ ad, IA' = some ad → ∃ ad0, IA = some ad0 ∧ ad.block = ad0.block)) ∧ Apart [d, g] w w' ∧ w'.heap.size = w.heap.size := by
  have hl := hr.len
  rw [List.length_append] at hl
  by_cases h0 : m = 0
  · subst h0
    have ha0 : a = [] := List.eq_nil_of_length_eq_zero ha
    subst ha0
    refine (readFull_zero (.iface 34 (.pointer (some ⟨g, 0, none⟩))) (some ⟨d, off, none⟩) cap w).mono ?_
    rintro e w' ⟨rfl, rfl⟩
    refine ⟨rfl, ?_, ⟨IA, c, hg, fun _ _ h _ => h, fun h => h, fun ad h => ⟨ad, h, rfl⟩⟩, Apart.refl _ _, rfl⟩
    rw [splice_nil]
    exact hd
  · refine (readFull_full g d off T IA n c m cap out l (a ++ b) w hg hd hr (by omega) (by omega) hn hfit hgd).mono ?_
    rintro e w' ⟨rfl, hd', hg', ha', hs'⟩
    have e1 : (a ++ b).take m = a := by rw [← ha]; exact List.take_left
    have e2 : (a ++ b).drop m = b := by rw [← ha]; exact List.drop_left
    rw [e1] at hd'
    refine ⟨rfl, hd', ⟨_, _, hg', fun _ w'' h hc => ?_, fun h => by omega, ?_⟩, ha', hs'⟩
    · have := h.cutEnd (lo := m) (by omega) hc
      rw [e2] at this
      exact this
    · intro ad h
      unfold cutA at h
      split at h
      · exact ⟨ad, h, rfl⟩
      · cases IA with
        | none => cases h
        | some a0 =>
          simp at h
          exact ⟨a0, rfl, by rw [← h, block_of_add]⟩

/-- Bodies that were read: each in a block of its own. -/
def Got (w : World) (B : Nat) (gs : List (Nat × List UInt8)) : Prop := ∀ x ∈ gs, BB w x.1 5 x.2 ∧ B ≤ x.1
def gotCells (gs : List (Nat × List UInt8)) : List Value := gs.map fun x => .slice (some ⟨x.1, 0, none⟩) x.2.length x.2.length
section
variable {w w' : World} {B : Nat} {gs : List (Nat × List UInt8)}
theorem Got.apart {ps : List Nat} (h : Got w B gs) (ha : Apart ps w w') (hp : ∀ k ∈ ps, k < B) : Got w' B gs := fun x hx => ⟨(h x hx).1.apart ha (fun hm => by have := hp _ hm; have := (h x hx).2; omega), (h x hx).2⟩
theorem Got.apartN {ps : List Nat} (h : Got w B gs) (ha : Apart ps w w') (hp : ∀ k ∈ ps, k < B ∨ w.heap.size ≤ k) : Got w' B gs := fun x hx => ⟨(h x hx).1.apart ha (fun hm => by have := hp _ hm; have := (h x hx).2; have := (h x hx).1.lt; omega), (h x hx).2⟩
theorem Got.farN (h : Got w B gs) {b o : Nat} (hp : b < B) (u : Value) : Got (w.setCell ⟨b, o, none⟩ u) B gs := fun x hx => ⟨(h x hx).1.farN (by have := (h x hx).2; omega) u, (h x hx).2⟩
theorem Got.alloc (h : Got w B gs) (o : Obj) : Got (w.alloc o) B gs := fun x hx => ⟨(h x hx).1.alloc o, (h x hx).2⟩
theorem Got.drew (h : Got w B gs) : Got w.drew B gs := h
theorem Got.grown {base size n c : Nat} {A : Option Addr} {xs : List Value} {t : TypeId} {v : World} (h : Got w B gs) (ho : v.ownsRow base t size (.slice A n c) n xs) (hv : ∀ x ∈ gs, BB v x.1 5 x.2) (ht : t ≠ 5) (hg : w.grownBy w' (A.map (·.block))) : Got w' B gs :=
  fun x hx => ⟨Blk.grown (h x hx).1 hg (by
    have hne := own_blk_ne ho (hv x hx) ht
    cases A with
    | none => simp
    | some ad =>
      simp [Value.ownBlock] at hne ⊢
      exact fun e => hne e.symm), (h x hx).2⟩
theorem Got.snoc (h : Got w B gs) {b : Nat} {l : List UInt8} (hb : BB w b 5 l) (hB : B ≤ b) : Got w B (gs ++ [(b, l)]) := fun x hx => by
  rcases List.mem_append.1 hx with h1 | h1
  · exact h x h1
  · simp at h1
    subst h1
    exact ⟨hb, hB⟩
theorem gotCells_snoc (b : Nat) (l : List UInt8) : gotCells gs ++ [.slice (some ⟨b, 0, none⟩) l.length l.length] = gotCells (gs ++ [(b, l)]) := by simp [gotCells]
end

theorem elBytes : Elem 73 23 1 24 := ⟨Tryz.underlying73, ⟨.slice none 0 0, by kernel_rfl, rfl⟩, by decide⟩
theorem nil_Type (w : World) : (nilAhead 318 107 (.agg #[]) "Type").run Tryz.prog w = .ok (some false) w := by kernel_rfl
theorem method_Type (w : World) : (method 318 107 (.agg #[]) "Type").run Tryz.prog w = .ok (145, .agg #[]) w := by kernel_rfl
theorem secType (w : World) : Calls Tryz.prog 145 #[.agg #[]] w fun e w' => e = .returned (.string ⟨#[78, 85, 76, 76]⟩) ∧ Below w.heap.size w w' := by
  go_enter Tryz.func145, Tryz.ntmps145
  go_wp2_with fail
  go_ret
  exact ⟨rfl, (Below.refl _ _).alloc (Nat.le_refl _) _⟩

def noughts (n : Nat) : List UInt8 := List.replicate n 0
theorem made_u8 (n : Nat) : madeCells (Value.int .u8 0).cells n = (bv (noughts n)).toArray := by
  apply Array.ext
  · simp [madeCells, bv, noughts]
  · intro i h1 h2
    simp [madeCells, bv, noughts, Value.cells, Nat.mod_one]
theorem makeN (n : Nat) (hn : n ≤ 1099511627776) (W : World) : (Instr.makeSlice 23 (.int .u64 (n : Int)) (.int .u64 (n : Int))).run Tryz.prog W = .ok (.slice (some ⟨W.heap.size, 0, none⟩) n n) (W.alloc (.cells (bv (noughts n)).toArray 5)) := by
  obtain ⟨i, hi, hz0, hz1, hz2⟩ := info_parts Tryz.info_u8
  have h := run_make (P := Tryz.prog) W 23 5 i _ Tryz.u_bytes hi hz0 .u64 .u64 n n (by omega) (Int.le_refl _) (by rw [hz2]; omega) (by omega)
  simp only [Int.toNat_natCast, hz1, Nat.mul_one, made_u8] at h
  exact h
end Go.Proofs.YtkpcepdalegmmaaGreatDoor
