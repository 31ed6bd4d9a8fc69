/- The types lie as they ought to, so many at a time. -/
import Derived.Test.YtikaagebnmkeaaaGreatRows
import Derived.JoinedOf
import Derived.KernelRfl
set_option maxRecDepth 100000
namespace Go.Proofs.YtikaagebnmkeaaaGreat
open Go
theorem lt0 : (List.range' 0 80).all (rowFine Tryz.prog) = true := by kernel_rfl
theorem lt1 : (List.range' 80 80).all (rowFine Tryz.prog) = true := by kernel_rfl
theorem lt2 : (List.range' 160 80).all (rowFine Tryz.prog) = true := by kernel_rfl
theorem lt3 : (List.range' 240 80).all (rowFine Tryz.prog) = true := by kernel_rfl
theorem lt4 : (List.range' 320 80).all (rowFine Tryz.prog) = true := by kernel_rfl
theorem lt5 : (List.range' 400 80).all (rowFine Tryz.prog) = true := by kernel_rfl
theorem lt6 : (List.range' 480 80).all (rowFine Tryz.prog) = true := by kernel_rfl
theorem lt7 : (List.range' 560 80).all (rowFine Tryz.prog) = true := by kernel_rfl
theorem lt8 : (List.range' 640 80).all (rowFine Tryz.prog) = true := by kernel_rfl
theorem lt9 : (List.range' 720 80).all (rowFine Tryz.prog) = true := by kernel_rfl
theorem lt10 : (List.range' 800 56).all (rowFine Tryz.prog) = true := by kernel_rfl
end Go.Proofs.YtikaagebnmkeaaaGreat
