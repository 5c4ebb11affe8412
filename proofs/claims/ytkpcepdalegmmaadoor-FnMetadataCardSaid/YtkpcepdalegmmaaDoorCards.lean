/-
  DERIVED. GIVEN WITH THE SEED: THE CARDS: each row of YtkpcepdalegmmaaDoorRows.lean that lists a variable, with what it lists TIED to the program's text (the seventh form; the later family's looks); each row that meets fmt, with fmt's text TOLD by the authors' own Lean function (tested against real Go, not proved from fmt's source: count such statements apart). THE CARD IS WHAT COUNTS. Prove the row's statement (the work); the ties are given (YtkpcepdalegmmaaDoorTie.lean); close each card by the builder's one call (the guide's Derived/Test/ToyasCard.lean, 'card_holds'). Laid BY PROGRAM, IN A SANDBOX (cutbox-door.mjs). By AI agents, Wed Nov 11 2026. No macro, syntax, notation, axiom, sorry.
-/
import Derived.Test.YtkpcepdalegmmaaDoorRows
import GoSem.ClaimSeven
namespace Go.Proofs.YtkpcepdalegmmaaDoor
namespace Rows

/-- THE TIED CARD OF 'laws.FnMetadata'. -/
def fnMetadataCard : Claim7 := { stood := { row := fnMetadataRow, standIns := [], harness := (true, "cc772fcfc747b90de77ea6f15add7cb28af93d62b83e93169671d1065f84a679"), looks := true }, kinds := [], alts := [], laidByText := true, laidKinds := [.data, .pinned, .pinned], laidTests := true, laidLooks := .later }
def FnMetadataCardSaid : Prop := Claim7.holds Tryd.pinned (.plain (OpenSpec.ofChange fnMetadataSpec)) fnMetadataCard

/-- THE SECOND FORM's CARD OF 'laws.FnMetadata'. -/
def fnMetadataUptoCard : Claim7 := { stood := { row := fnMetadataUptoRow, standIns := [], harness := (true, "cc772fcfc747b90de77ea6f15add7cb28af93d62b83e93169671d1065f84a679"), looks := true }, kinds := [], alts := [], laidByText := true, laidKinds := [.data, .pinned, .pinned], laidTests := true, laidLooks := .later }
def FnMetadataUptoCardSaid : Prop := Claim7.holds Tryd.pinned (.plain (OpenSpec.upto fnMetadataSpec)) fnMetadataUptoCard
end Rows
end Go.Proofs.YtkpcepdalegmmaaDoor
