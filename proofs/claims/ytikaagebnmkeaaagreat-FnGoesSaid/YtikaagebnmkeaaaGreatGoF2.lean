/- What the row says of the program. -/
import Derived.Test.YtikaagebnmkeaaaGreatRows
import Derived.JoinedOf
import Derived.KernelRfl
set_option maxRecDepth 100000
namespace Go.Proofs.YtikaagebnmkeaaaGreat
open Go
theorem inPl : Tryz.prog.inPlace 3 = Rows.fnGoesRow.inPlace := by kernel_rfl
theorem unf : Tryz.prog.unfollowed 3 = Rows.fnGoesRow.unfollowed := by kernel_rfl
end Go.Proofs.YtikaagebnmkeaaaGreat
