/- The parameters have types, the maps too, so many at a time. -/
import Derived.Test.YtikaagebnmkeaaaGreatRows
import Derived.JoinedOf
import Derived.KernelRfl
set_option maxRecDepth 100000
namespace Go.Proofs.YtikaagebnmkeaaaGreat
open Go
def parIn (Q : Program) (i : Nat) : Bool := match Q.funcs[i]? with | some f => f.params.all fun t => decide (t < Q.types.size) | none => true
def mapIn (Q : Program) (t : Nat) : Bool := match Q.underlying t with | some (.map k e) => decide (e < Q.types.size) && (match Q.underlying k with | some (.array _ _) | some (.struct _) => false | _ => true) | _ => true
theorem lp0 : (List.range' 0 80).all (parIn Tryz.prog) = true := by kernel_rfl
theorem lp1 : (List.range' 80 80).all (parIn Tryz.prog) = true := by kernel_rfl
theorem lp2 : (List.range' 160 80).all (parIn Tryz.prog) = true := by kernel_rfl
theorem lp3 : (List.range' 240 80).all (parIn Tryz.prog) = true := by kernel_rfl
theorem lp4 : (List.range' 320 80).all (parIn Tryz.prog) = true := by kernel_rfl
theorem lp5 : (List.range' 400 80).all (parIn Tryz.prog) = true := by kernel_rfl
theorem lp6 : (List.range' 480 80).all (parIn Tryz.prog) = true := by kernel_rfl
theorem lp7 : (List.range' 560 80).all (parIn Tryz.prog) = true := by kernel_rfl
theorem lp8 : (List.range' 640 80).all (parIn Tryz.prog) = true := by kernel_rfl
theorem lp9 : (List.range' 720 80).all (parIn Tryz.prog) = true := by kernel_rfl
theorem lp10 : (List.range' 800 80).all (parIn Tryz.prog) = true := by kernel_rfl
theorem lp11 : (List.range' 880 80).all (parIn Tryz.prog) = true := by kernel_rfl
theorem lp12 : (List.range' 960 73).all (parIn Tryz.prog) = true := by kernel_rfl
def nmIn (Q : Program) (i : Nat) : Bool := ((Q.funcs[i]?).any (·.name == "pub-kmsg/laws.FnGoes")) == decide (i = 3)
theorem lq0 : (List.range' 0 80).all (nmIn Tryz.prog) = true := by kernel_rfl
theorem lq1 : (List.range' 80 80).all (nmIn Tryz.prog) = true := by kernel_rfl
theorem lq2 : (List.range' 160 80).all (nmIn Tryz.prog) = true := by kernel_rfl
theorem lq3 : (List.range' 240 80).all (nmIn Tryz.prog) = true := by kernel_rfl
theorem lq4 : (List.range' 320 80).all (nmIn Tryz.prog) = true := by kernel_rfl
theorem lq5 : (List.range' 400 80).all (nmIn Tryz.prog) = true := by kernel_rfl
theorem lq6 : (List.range' 480 80).all (nmIn Tryz.prog) = true := by kernel_rfl
theorem lq7 : (List.range' 560 80).all (nmIn Tryz.prog) = true := by kernel_rfl
theorem lq8 : (List.range' 640 80).all (nmIn Tryz.prog) = true := by kernel_rfl
theorem lq9 : (List.range' 720 80).all (nmIn Tryz.prog) = true := by kernel_rfl
theorem lq10 : (List.range' 800 80).all (nmIn Tryz.prog) = true := by kernel_rfl
theorem lq11 : (List.range' 880 80).all (nmIn Tryz.prog) = true := by kernel_rfl
theorem lq12 : (List.range' 960 73).all (nmIn Tryz.prog) = true := by kernel_rfl
def fnF (f : Func) : Bool := (Stop.rowOf f).isNone && !(f.body.isNone && (f.name == "runtime.SetFinalizer" || f.name == "runtime.AddCleanup" || f.origin == "runtime.AddCleanup")) && !(f.body.isNone && (opensWith (nameBytes "reflect.") (nameBytes f.name) || opensWith (nameBytes "(reflect.") (nameBytes f.name) || opensWith (nameBytes "(*reflect.") (nameBytes f.name))) && !(f.body.isNone && opensWith (nameBytes "var's door: ") (nameBytes f.name))
def fnIn (Q : Program) (i : Nat) : Bool := match Q.funcs[i]? with | some f => fnF f | none => true
theorem ln0 : (List.range' 0 80).all (fnIn Tryz.prog) = true := by kernel_rfl
theorem ln1 : (List.range' 80 80).all (fnIn Tryz.prog) = true := by kernel_rfl
theorem ln2 : (List.range' 160 80).all (fnIn Tryz.prog) = true := by kernel_rfl
theorem ln3 : (List.range' 240 80).all (fnIn Tryz.prog) = true := by kernel_rfl
theorem ln4 : (List.range' 320 80).all (fnIn Tryz.prog) = true := by kernel_rfl
theorem ln5 : (List.range' 400 80).all (fnIn Tryz.prog) = true := by kernel_rfl
theorem ln6 : (List.range' 480 80).all (fnIn Tryz.prog) = true := by kernel_rfl
theorem ln7 : (List.range' 560 80).all (fnIn Tryz.prog) = true := by kernel_rfl
theorem ln8 : (List.range' 640 80).all (fnIn Tryz.prog) = true := by kernel_rfl
theorem ln9 : (List.range' 720 80).all (fnIn Tryz.prog) = true := by kernel_rfl
theorem ln10 : (List.range' 800 80).all (fnIn Tryz.prog) = true := by kernel_rfl
theorem ln11 : (List.range' 880 80).all (fnIn Tryz.prog) = true := by kernel_rfl
theorem ln12 : (List.range' 960 73).all (fnIn Tryz.prog) = true := by kernel_rfl
theorem lm0 : (List.range' 0 120).all (mapIn Tryz.prog) = true := by kernel_rfl
theorem lm1 : (List.range' 120 120).all (mapIn Tryz.prog) = true := by kernel_rfl
theorem lm2 : (List.range' 240 120).all (mapIn Tryz.prog) = true := by kernel_rfl
theorem lm3 : (List.range' 360 120).all (mapIn Tryz.prog) = true := by kernel_rfl
theorem lm4 : (List.range' 480 120).all (mapIn Tryz.prog) = true := by kernel_rfl
theorem lm5 : (List.range' 600 120).all (mapIn Tryz.prog) = true := by kernel_rfl
theorem lm6 : (List.range' 720 120).all (mapIn Tryz.prog) = true := by kernel_rfl
theorem lm7 : (List.range' 840 16).all (mapIn Tryz.prog) = true := by kernel_rfl
end Go.Proofs.YtikaagebnmkeaaaGreat
