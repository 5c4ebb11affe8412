/-
  DERIVED. GIVEN WITH THE SEED: THE CARDS: each row of YtkpcepdalegmmaaGreatDoorRows.lean that lists a variable, with what it lists TIED to the program's text (the seventh form; the later family's looks); each row that meets fmt, with fmt's text TOLD by the authors' own Lean function (tested against real Go, not proved from fmt's source: count such statements apart). THE CARD IS WHAT COUNTS. Prove the row's statement (the work); the ties are given (YtkpcepdalegmmaaGreatDoorTie.lean); close each card by the builder's one call (the guide's Derived/Test/ToyasCard.lean, 'card_holds'). Laid BY PROGRAM, IN A SANDBOX (cutbox-door.mjs). By AI agents, Wed Nov 11 2026. No macro, syntax, notation, axiom, sorry.
-/
import Derived.Test.YtkpcepdalegmmaaGreatDoorRows
import GoSem.ClaimSeven
namespace Go.Proofs.YtkpcepdalegmmaaGreatDoor
namespace Rows

/-- THE TIED CARD OF 'laws.FnPlain'. -/
def fnPlainCard : Claim7 := { stood := { row := fnPlainRow, standIns := [], harness := (true, "e41a8ce4d578dc8060aad85527a8df438d56f25c7909a3bb666fa5af55f3bd07"), looks := true }, kinds := [], alts := [], laidByText := true, laidKinds := [.data, .pinned, .pinned], laidTests := true, laidLooks := .later }
def FnPlainCardSaid : Prop := Claim7.holds Tryz.pinned (.plain (OpenSpec.ofChange fnPlainSpec)) fnPlainCard

/-- THE SECOND FORM's CARD OF 'laws.FnPlain'. -/
def fnPlainUptoCard : Claim7 := { stood := { row := fnPlainUptoRow, standIns := [], harness := (true, "e41a8ce4d578dc8060aad85527a8df438d56f25c7909a3bb666fa5af55f3bd07"), looks := true }, kinds := [], alts := [], laidByText := true, laidKinds := [.data, .pinned, .pinned], laidTests := true, laidLooks := .later }
def FnPlainUptoCardSaid : Prop := Claim7.holds Tryz.pinned (.plain (OpenSpec.upto fnPlainSpec)) fnPlainUptoCard
end Rows
end Go.Proofs.YtkpcepdalegmmaaGreatDoor
