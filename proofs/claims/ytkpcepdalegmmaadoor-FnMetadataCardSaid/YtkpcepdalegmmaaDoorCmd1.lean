/- Commands: the walks of spec.Name, spec.Command. -/
import Derived.Test.YtkpcepdalegmmaaDoorBytes
namespace Go.Proofs.YtkpcepdalegmmaaDoor
open Go.RowKit

/-- A command's bytes: its name's length, its name, its data. -/
def cmdBytes (name : ByteArray) (body : List UInt8) : List UInt8 := (UInt8.ofNat name.size :: name.data.toList) ++ body

theorem lit1 (n : Nat) : (#[Value.int .u8 ((n : Int) % 256)]).toList = bv [UInt8.ofNat n] := by simp [bv]

end Go.Proofs.YtkpcepdalegmmaaDoor
