/- What the row says of the program. -/
import Derived.Test.YtikaagebnmkeaaaGreatRows
import Derived.JoinedOf
import Derived.KernelRfl
set_option maxRecDepth 100000
namespace Go.Proofs.YtikaagebnmkeaaaGreat
open Go
theorem lf : Tryz.prog.liftsFinal = false := by kernel_rfl
end Go.Proofs.YtikaagebnmkeaaaGreat
