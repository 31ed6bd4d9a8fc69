/- What the row says of the program. -/
import Derived.Test.YtikaagebnmkeaaaGreatRows
import Derived.JoinedOf
import Derived.KernelRfl
set_option maxRecDepth 100000
namespace Go.Proofs.YtikaagebnmkeaaaGreat
open Go
theorem rcs : Tryz.prog.recurses 3 = Rows.fnGoesRow.recurses := by kernel_rfl
end Go.Proofs.YtikaagebnmkeaaaGreat
