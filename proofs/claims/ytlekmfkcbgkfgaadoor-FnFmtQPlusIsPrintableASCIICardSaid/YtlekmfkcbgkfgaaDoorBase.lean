/- Facts of this translation on the type byte; the byte with which a formatter pads. -/
import Derived.Test.YtlekmfkcbgkfgaaDoorRows
import Derived.Test.YtlekmfkcbgkfgaaDoorBuf
import Derived.KernelRfl
namespace Go.Proofs.YtlekmfkcbgkfgaaDoor.Fm
theorem info5 : (Tryd.prog.info? 5).map (fun i => (i.zero, i.size, i.bytes)) = some (some (.int .u8 0), 1, 1) := by kernel_rfl
theorem size5 : (Tryd.prog.info? 5).map (·.size) = some 1 := by kernel_rfl

/-- The byte with which a formatter pads. -/
def padByte (z : Bool) : UInt8 := if z then 48 else 32
end Go.Proofs.YtlekmfkcbgkfgaaDoor.Fm
