/-
  No cell of these rows narrows 'for every input' (looked for: loops, veiled, ifaces, maps, wideKeys, modest, calm, conditions, laid).
  DERIVED. THE GIVEN ROWS OF THIS SEAT. 6 by the template 'for every input the law returns true; each argument reads behind the call as it read before'; 0 by the template 'total and deterministic' (their statements: YtkpcepdalegmmaaTotals.lean).
  GIVEN WITH THE SEED: the statements are not yours to turn. If you find one false, say at which input.
  Laid BY PROGRAM, IN A SANDBOX (cutbox-rows.mjs): the forced cells as the released guide's own fill.sh prints them over the translation ab643dc860cefd84… (all of the seat's roots in one cut). By AI agents, Wed Nov 11 2026. No macro, syntax, notation, axiom, sorry.
-/
import Derived.Test.YtkpcepdalegmmaaChecked
import GoSem.Claim
import GoSem.ClaimJoined
import GoSem.ClaimMapViews
import Derived.JoinedTies
import Derived.KernelRfl
namespace Go.Proofs.Ytkpcepdalegmmaa
/- THE CELL 'sum', in the pinned program and in every row, IS THE sha256 OF THE DUMP (.gsa) THAT YtkpcepdalegmmaaProg.lean LOADS. Nothing in Lean hashes anything: it is a label: what it is worth is what the hold of that sum in a sandbox is worth. -/
noncomputable def Try.pinned : Pinned := { name := "ytkpcepdalegmmaa", sum := "ab643dc860cefd84bf7520589c451f84fc370aa938e2dec67ba5fc95a44f72ed", checked := Try.checked }
namespace Rows
def none {H : Type} : Left H := { results := [], args := [] }

/-- 'laws.FnCommand': WHATEVER THE INPUT: true; the input reads as it did. -/
def fnCommandSpec : ChangeSpec := { name := "fnCommand", fn := fun _ => fun
  | [d1, d2, d3] => { results := [.lit (.bool true)], args := [d1, d2, d3] }
  | _ => none }
def fnCommandRow : OpenClaim := { program := "ytkpcepdalegmmaa", sum := "ab643dc860cefd84bf7520589c451f84fc370aa938e2dec67ba5fc95a44f72ed", func := "zmq4frames/laws.FnCommand", spec := "fnCommand", unfollowed := true, recurses := true, apart := false }
def FnCommandSaid : Prop := fnCommandRow.holds Try.pinned (OpenSpec.ofChange fnCommandSpec)

/-- ITS FALSE NEIGHBOUR: 'it returns false'. Refute it at one input. -/
def fnCommandWrong : ChangeSpec := { name := "fnCommand", fn := fun _ => fun
  | [d1, d2, d3] => { results := [.lit (.bool false)], args := [d1, d2, d3] }
  | _ => none }
def FnCommandWrongFalsely : Prop := fnCommandRow.holds Try.pinned (OpenSpec.ofChange fnCommandWrong)

/-- 'laws.FnGreetingBroken': WHATEVER THE INPUT: true; the input reads as it did. -/
def fnGreetingBrokenSpec : ChangeSpec := { name := "fnGreetingBroken", fn := fun _ => fun
  | [d1, d2, d3, d4, d5, d6] => { results := [.lit (.bool true)], args := [d1, d2, d3, d4, d5, d6] }
  | _ => none }
def fnGreetingBrokenRow : OpenClaim := { program := "ytkpcepdalegmmaa", sum := "ab643dc860cefd84bf7520589c451f84fc370aa938e2dec67ba5fc95a44f72ed", func := "zmq4frames/laws.FnGreetingBroken", spec := "fnGreetingBroken", unfollowed := true, recurses := true, apart := false }
def FnGreetingBrokenSaid : Prop := fnGreetingBrokenRow.holds Try.pinned (OpenSpec.ofChange fnGreetingBrokenSpec)

/-- ITS FALSE NEIGHBOUR: 'it returns false'. Refute it at one input. -/
def fnGreetingBrokenWrong : ChangeSpec := { name := "fnGreetingBroken", fn := fun _ => fun
  | [d1, d2, d3, d4, d5, d6] => { results := [.lit (.bool false)], args := [d1, d2, d3, d4, d5, d6] }
  | _ => none }
def FnGreetingBrokenWrongFalsely : Prop := fnGreetingBrokenRow.holds Try.pinned (OpenSpec.ofChange fnGreetingBrokenWrong)

/-- 'laws.FnGreeting': WHATEVER THE INPUT: true; the input reads as it did. -/
def fnGreetingSpec : ChangeSpec := { name := "fnGreeting", fn := fun _ => fun
  | [d1, d2, d3, d4] => { results := [.lit (.bool true)], args := [d1, d2, d3, d4] }
  | _ => none }
def fnGreetingRow : OpenClaim := { program := "ytkpcepdalegmmaa", sum := "ab643dc860cefd84bf7520589c451f84fc370aa938e2dec67ba5fc95a44f72ed", func := "zmq4frames/laws.FnGreeting", spec := "fnGreeting", unfollowed := true, recurses := true, apart := false }
def FnGreetingSaid : Prop := fnGreetingRow.holds Try.pinned (OpenSpec.ofChange fnGreetingSpec)

/-- ITS FALSE NEIGHBOUR: 'it returns false'. Refute it at one input. -/
def fnGreetingWrong : ChangeSpec := { name := "fnGreeting", fn := fun _ => fun
  | [d1, d2, d3, d4] => { results := [.lit (.bool false)], args := [d1, d2, d3, d4] }
  | _ => none }
def FnGreetingWrongFalsely : Prop := fnGreetingRow.holds Try.pinned (OpenSpec.ofChange fnGreetingWrong)

/-- 'laws.FnFramesCut': WHATEVER THE INPUT: true; the input reads as it did. -/
def fnFramesCutSpec : ChangeSpec := { name := "fnFramesCut", fn := fun _ => fun
  | [d1, d2] => { results := [.lit (.bool true)], args := [d1, d2] }
  | _ => none }
def fnFramesCutRow : OpenClaim := { program := "ytkpcepdalegmmaa", sum := "ab643dc860cefd84bf7520589c451f84fc370aa938e2dec67ba5fc95a44f72ed", func := "zmq4frames/laws.FnFramesCut", spec := "fnFramesCut", unfollowed := true, recurses := true, apart := false }
def FnFramesCutSaid : Prop := fnFramesCutRow.holds Try.pinned (OpenSpec.ofChange fnFramesCutSpec)

/-- ITS FALSE NEIGHBOUR: 'it returns false'. Refute it at one input. -/
def fnFramesCutWrong : ChangeSpec := { name := "fnFramesCut", fn := fun _ => fun
  | [d1, d2] => { results := [.lit (.bool false)], args := [d1, d2] }
  | _ => none }
def FnFramesCutWrongFalsely : Prop := fnFramesCutRow.holds Try.pinned (OpenSpec.ofChange fnFramesCutWrong)

/-- 'laws.FnFrames': WHATEVER THE INPUT: true; the input reads as it did. -/
def fnFramesSpec : ChangeSpec := { name := "fnFrames", fn := fun _ => fun
  | [d] => { results := [.lit (.bool true)], args := [d] }
  | _ => none }
def fnFramesRow : OpenClaim := { program := "ytkpcepdalegmmaa", sum := "ab643dc860cefd84bf7520589c451f84fc370aa938e2dec67ba5fc95a44f72ed", func := "zmq4frames/laws.FnFrames", spec := "fnFrames", unfollowed := true, recurses := true, apart := false }
def FnFramesSaid : Prop := fnFramesRow.holds Try.pinned (OpenSpec.ofChange fnFramesSpec)

/-- ITS FALSE NEIGHBOUR: 'it returns false'. Refute it at one input. -/
def fnFramesWrong : ChangeSpec := { name := "fnFrames", fn := fun _ => fun
  | [d] => { results := [.lit (.bool false)], args := [d] }
  | _ => none }
def FnFramesWrongFalsely : Prop := fnFramesRow.holds Try.pinned (OpenSpec.ofChange fnFramesWrong)

/-- 'laws.FnMetadataCut': WHATEVER THE INPUT: true; the input reads as it did. -/
def fnMetadataCutSpec : ChangeSpec := { name := "fnMetadataCut", fn := fun _ => fun
  | [d1, d2] => { results := [.lit (.bool true)], args := [d1, d2] }
  | _ => none }
def fnMetadataCutRow : OpenClaim := { program := "ytkpcepdalegmmaa", sum := "ab643dc860cefd84bf7520589c451f84fc370aa938e2dec67ba5fc95a44f72ed", func := "zmq4frames/laws.FnMetadataCut", spec := "fnMetadataCut", unfollowed := true, recurses := true, apart := false }
def FnMetadataCutSaid : Prop := fnMetadataCutRow.holds Try.pinned (OpenSpec.ofChange fnMetadataCutSpec)

/-- ITS FALSE NEIGHBOUR: 'it returns false'. Refute it at one input. -/
def fnMetadataCutWrong : ChangeSpec := { name := "fnMetadataCut", fn := fun _ => fun
  | [d1, d2] => { results := [.lit (.bool false)], args := [d1, d2] }
  | _ => none }
def FnMetadataCutWrongFalsely : Prop := fnMetadataCutRow.holds Try.pinned (OpenSpec.ofChange fnMetadataCutWrong)

/- THE SECOND FORM. 'bulk': how many values and letters a reading holds, each counted each time it is reached (what is shared counts as often as it is met; a slice's spare places count too). A statement '..UptoSaid' is the law's where the arguments, and the package variables that the reading takes, are together of bulk at most 1048576: NARROWER than '..Said'. Prove '..Said' where nothing that the law and all that it calls make is longer than what came in: it says more and counts as full. Else prove '..UptoSaid'. A law counts once. -/
mutual
def uptoBulk {H : Type} : DataW H → Nat
  | .lit (.string bytes) => bytes.length + 1
  | .lit _ => 1
  | .nil => 1
  | .ptr d => uptoBulk d + 1
  | .slice elems spare => uptoBulkAll elems + uptoBulkAll spare + 1
  | .agg parts => uptoBulkAll parts + 1
  | .iface _ d => uptoBulk d + 1
  | .map entries => uptoBulkEntries entries + 1
  | .held _ => 1
def uptoBulkAll {H : Type} : List (DataW H) → Nat
  | [] => 0
  | d :: r => uptoBulk d + uptoBulkAll r
def uptoBulkEntries {H : Type} : List (Lit × DataW H) → Nat
  | [] => 0
  | x :: r => uptoBulkEntry x + uptoBulkEntries r
def uptoBulkEntry {H : Type} : Lit × DataW H → Nat
  | (.string bytes, d) => bytes.length + uptoBulk d + 1
  | (_, d) => uptoBulk d + 1
 end
def uptoSmall : (H : Type) → List (DataW H) → Bool := fun _ ds => decide (uptoBulkAll ds ≤ 1048576)
def OpenSpec.upto (s : _root_.Go.ChangeSpec) : _root_.Go.OpenSpec := { _root_.Go.OpenSpec.ofChange s with cond := some uptoSmall }

/-- 'laws.FnCommand', WHERE WHAT IT READS IS OF BULK AT MOST 1048576: true; the input reads as it did. -/
def fnCommandUptoRow : OpenClaim := { program := "ytkpcepdalegmmaa", sum := "ab643dc860cefd84bf7520589c451f84fc370aa938e2dec67ba5fc95a44f72ed", func := "zmq4frames/laws.FnCommand", spec := "fnCommand", unfollowed := true, recurses := true, apart := false, narrowed := true }
def FnCommandUptoSaid : Prop := fnCommandUptoRow.holds Try.pinned (OpenSpec.upto fnCommandSpec)

/-- 'laws.FnGreetingBroken', WHERE WHAT IT READS IS OF BULK AT MOST 1048576: true; the input reads as it did. -/
def fnGreetingBrokenUptoRow : OpenClaim := { program := "ytkpcepdalegmmaa", sum := "ab643dc860cefd84bf7520589c451f84fc370aa938e2dec67ba5fc95a44f72ed", func := "zmq4frames/laws.FnGreetingBroken", spec := "fnGreetingBroken", unfollowed := true, recurses := true, apart := false, narrowed := true }
def FnGreetingBrokenUptoSaid : Prop := fnGreetingBrokenUptoRow.holds Try.pinned (OpenSpec.upto fnGreetingBrokenSpec)

/-- 'laws.FnGreeting', WHERE WHAT IT READS IS OF BULK AT MOST 1048576: true; the input reads as it did. -/
def fnGreetingUptoRow : OpenClaim := { program := "ytkpcepdalegmmaa", sum := "ab643dc860cefd84bf7520589c451f84fc370aa938e2dec67ba5fc95a44f72ed", func := "zmq4frames/laws.FnGreeting", spec := "fnGreeting", unfollowed := true, recurses := true, apart := false, narrowed := true }
def FnGreetingUptoSaid : Prop := fnGreetingUptoRow.holds Try.pinned (OpenSpec.upto fnGreetingSpec)

/-- 'laws.FnFramesCut', WHERE WHAT IT READS IS OF BULK AT MOST 1048576: true; the input reads as it did. -/
def fnFramesCutUptoRow : OpenClaim := { program := "ytkpcepdalegmmaa", sum := "ab643dc860cefd84bf7520589c451f84fc370aa938e2dec67ba5fc95a44f72ed", func := "zmq4frames/laws.FnFramesCut", spec := "fnFramesCut", unfollowed := true, recurses := true, apart := false, narrowed := true }
def FnFramesCutUptoSaid : Prop := fnFramesCutUptoRow.holds Try.pinned (OpenSpec.upto fnFramesCutSpec)

/-- 'laws.FnFrames', WHERE WHAT IT READS IS OF BULK AT MOST 1048576: true; the input reads as it did. -/
def fnFramesUptoRow : OpenClaim := { program := "ytkpcepdalegmmaa", sum := "ab643dc860cefd84bf7520589c451f84fc370aa938e2dec67ba5fc95a44f72ed", func := "zmq4frames/laws.FnFrames", spec := "fnFrames", unfollowed := true, recurses := true, apart := false, narrowed := true }
def FnFramesUptoSaid : Prop := fnFramesUptoRow.holds Try.pinned (OpenSpec.upto fnFramesSpec)

/-- 'laws.FnMetadataCut', WHERE WHAT IT READS IS OF BULK AT MOST 1048576: true; the input reads as it did. -/
def fnMetadataCutUptoRow : OpenClaim := { program := "ytkpcepdalegmmaa", sum := "ab643dc860cefd84bf7520589c451f84fc370aa938e2dec67ba5fc95a44f72ed", func := "zmq4frames/laws.FnMetadataCut", spec := "fnMetadataCut", unfollowed := true, recurses := true, apart := false, narrowed := true }
def FnMetadataCutUptoSaid : Prop := fnMetadataCutUptoRow.holds Try.pinned (OpenSpec.upto fnMetadataCutSpec)

end Rows
end Go.Proofs.Ytkpcepdalegmmaa
