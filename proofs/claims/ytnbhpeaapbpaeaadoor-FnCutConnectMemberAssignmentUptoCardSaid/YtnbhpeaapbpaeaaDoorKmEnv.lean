/- The numbers of this translation; its functions of kbin have the texts that the contracts are about; its types are laid as they ask. -/
import Derived.Test.YtnbhpeaapbpaeaaDoorKb00
import Derived.Test.YtnbhpeaapbpaeaaDoorKb01
import Derived.Test.YtnbhpeaapbpaeaaDoorKb02
import Derived.Test.YtnbhpeaapbpaeaaDoorKb03
import Derived.Test.YtnbhpeaapbpaeaaDoorKb04
import Derived.Test.YtnbhpeaapbpaeaaDoorRows
set_option linter.unusedVariables false
namespace Go.Proofs.YtnbhpeaapbpaeaaDoor
open Go Go.Km
def E : Env := { tErr := 60, tI8 := 36, tI16 := 54, tI32 := 21, tI64 := 2, tU8 := 5, tU16 := 41, tW := 103, tU64 := 125, tO := 4, tF64 := 0, tI := 3, tStr := 9, tPStr := 0, tB := 22, tUuid := 0, tTags := 0, tPTags := 0, tRd := 116, tPRd := 135, rI8 := 74, rI16 := 60, rI32 := 73, rI64 := 72, rU16 := 0, rBool := 0, rF64 := 0, rUuid := 0, rStr := 81, rUStr := 80, rCStr := 0, rUCStr := 0, rNStr := 0, rUNStr := 0, rCNStr := 0, rUCNStr := 0, rBytes := 0, rCBytes := 0, rNBytes := 75, rCNBytes := 0, rLen := 77, rCLen := 0, rOk := 78, rComplete := 61, rTags := 0, wI8 := 0, wI16 := 47, wI32 := 53, wI64 := 59, wU16 := 62, wBool := 0, wF64 := 0, wUuid := 0, wStr := 55, wCStr := 0, wNStr := 0, wCNStr := 0, wBytes := 0, wCBytes := 0, wNBytes := 0, wCNBytes := 0, wLen := 54, wCLen := 0, wNLen := 0, wCNLen := 0, wUvarint := 0, tLen := 0, tEach := 0, tUint := 139, tFld := 65, tFlds := 26, tT := 33, tS := 30, tUnk := 105, tK := 31, tMsg := 28, wU32 := 83, wU64 := 86, uvLen := 0, len32 := 0, sHas := 63, sNull := 88, sWhole := 70, sThings := 89, sAt := 65, sUvar := 68, sFixed := 26, sWidth := 92, sCounted := 90, sValue := 91, sField := 64, sUsual := 67, sKnown := 66, sUnknown := 69, sPart := 48, sDefault := 0, sWrite := 27, sKept := 8, sSame := 10, lVersion := 19, tTagMap := 0, tU32s := 0, tFnTag := 0, tFnLess := 0, tAny := 20, gAll := 0, gEach1 := 0, gAll1 := 0, gSet := 0, sortSlice := 0, rUvar := 0, rSpan := 95, rU64 := 93, kUv := 0, kUs := 96, bU16 := 87, bU32 := 94, bU64 := 97, f64b := 0, f64f := 0, tBE := 137, tUvR := 0, vErr := 1, vBE := 0 }
theorem tt {Q : Program} {f : FuncId} {fn : Func} {np nt : Nat} {res : Array ResultVar} {c : Code} (h : Q.funcs[f]? = some fn) (hb : fn.body.map bare = some c) (hn : fn.ntmps = nt) (hr : fn.results = res) (hne : fn.name ≠ "runtime.NumGoroutine") : Text Q f np nt res c := ⟨fn, h, hb, hn, hr, hne⟩
theorem kt : KTexts Tryd.prog E where
  wBool := fun h => absurd rfl h
  wI8 := fun h => absurd rfl h
  wI16 := fun _ => (tt Tryd.func47 (by kernel_rfl) (by kernel_rfl) (by kernel_rfl) (by decide))
  wU16 := fun _ => (tt Tryd.func62 (by kernel_rfl) (by kernel_rfl) (by kernel_rfl) (by decide))
  wI32 := fun _ => (tt Tryd.func53 (by kernel_rfl) (by kernel_rfl) (by kernel_rfl) (by decide))
  wU32 := fun _ => (tt Tryd.func83 (by kernel_rfl) (by kernel_rfl) (by kernel_rfl) (by decide))
  wI64 := fun _ => (tt Tryd.func59 (by kernel_rfl) (by kernel_rfl) (by kernel_rfl) (by decide))
  wU64 := fun _ => (tt Tryd.func86 (by kernel_rfl) (by kernel_rfl) (by kernel_rfl) (by decide))
  wUuid := fun h => absurd rfl h
  wStr := fun _ => (tt Tryd.func55 (by kernel_rfl) (by kernel_rfl) (by kernel_rfl) (by decide))
  wCStr := fun h => absurd rfl h
  wNStr := fun h => absurd rfl h
  wCNStr := fun h => absurd rfl h
  wBytes := fun h => absurd rfl h
  wCBytes := fun h => absurd rfl h
  wNBytes := fun h => absurd rfl h
  wCNBytes := fun h => absurd rfl h
  wLen := fun _ => (tt Tryd.func54 (by kernel_rfl) (by kernel_rfl) (by kernel_rfl) (by decide))
  wCLen := fun h => absurd rfl h
  wNLen := fun h => absurd rfl h
  wCNLen := fun h => absurd rfl h
  uvLen := fun h => absurd rfl h
  len32 := fun h => absurd rfl h
  wUvarint := fun h => absurd rfl h
  tLen := fun h => absurd rfl h
  tEach := fun h => absurd rfl h
  gAll := fun h => absurd rfl h
theorem rt : RTexts Tryd.prog E where
  mixed := (by kernel_rfl)
  row := (by kernel_rfl)
  u8 := (by kernel_rfl)
  int := (by kernel_rfl)
  oBytes := (by kernel_rfl)
  oBool := (by kernel_rfl)
  oU8 := (by kernel_rfl)
  f0 := (by kernel_rfl)
  f1 := (by kernel_rfl)
  i32 := (by kernel_rfl)
  oE := (by kernel_rfl)
  rOk := (tt Tryd.func78 (by kernel_rfl) (by kernel_rfl) (by kernel_rfl) (by decide))
  rComplete := (tt Tryd.func61 (by kernel_rfl) (by kernel_rfl) (by kernel_rfl) (by decide))
  rI8 := fun _ => ⟨(by kernel_rfl), (tt Tryd.func74 (by kernel_rfl) (by kernel_rfl) (by kernel_rfl) (by decide))⟩
  rBool := fun h => absurd rfl h
  rI16 := fun _ => ⟨(by kernel_rfl), (by kernel_rfl), (by kernel_rfl), (tt Tryd.func87 (by kernel_rfl) (by kernel_rfl) (by kernel_rfl) (by decide)), (tt Tryd.func60 (by kernel_rfl) (by kernel_rfl) (by kernel_rfl) (by decide))⟩
  rU16 := fun h => absurd rfl h
  rI32 := fun _ => ⟨(by kernel_rfl), (by kernel_rfl), (tt Tryd.func94 (by kernel_rfl) (by kernel_rfl) (by kernel_rfl) (by decide)), (tt Tryd.func73 (by kernel_rfl) (by kernel_rfl) (by kernel_rfl) (by decide))⟩
  rI64 := fun _ => ⟨(by kernel_rfl), (by kernel_rfl), (by kernel_rfl), (tt Tryd.func97 (by kernel_rfl) (by kernel_rfl) (by kernel_rfl) (by decide)), (tt Tryd.func93 (by kernel_rfl) (by kernel_rfl) (by kernel_rfl) (by decide)), (tt Tryd.func72 (by kernel_rfl) (by kernel_rfl) (by kernel_rfl) (by decide))⟩
  rUvar := fun h => absurd rfl h
  rSpan := fun _ => (tt Tryd.func95 (by kernel_rfl) (by kernel_rfl) (by kernel_rfl) (by decide))
  rStr := fun _ => ⟨(by kernel_rfl), (by decide), (by decide), (tt Tryd.func81 (by kernel_rfl) (by kernel_rfl) (by kernel_rfl) (by decide))⟩
  rCStr := fun h => absurd rfl h
  rNStr := fun h => absurd rfl h
  rCNStr := fun h => absurd rfl h
  rBytes := fun h => absurd rfl h
  rCBytes := fun h => absurd rfl h
  rNBytes := fun _ => ⟨(by decide), (by decide), (tt Tryd.func75 (by kernel_rfl) (by kernel_rfl) (by kernel_rfl) (by decide))⟩
  rCNBytes := fun h => absurd rfl h
  rLen := fun _ => ⟨(by decide), (tt Tryd.func77 (by kernel_rfl) (by kernel_rfl) (by kernel_rfl) (by decide))⟩
  rCLen := fun h => absurd rfl h
theorem ew : EnvW Tryd.prog E (fun tags => tags = []) := envW0 kt (by kernel_rfl)
theorem ur : UuidR Tryd.prog E := fun h => absurd rfl h
theorem ei : EnvI Tryd.prog E := ⟨by kernel_rfl, by kernel_rfl⟩
theorem er : EnvR Tryd.prog E (fun tags => tags = []) := envR rt (by decide) ur (fun h => absurd rfl h)
theorem rx : EnvRX Tryd.prog E := ⟨by kernel_rfl, by kernel_rfl, by kernel_rfl⟩
theorem lv : Text Tryd.prog E.lVersion 2 10 #[.tmp 4] (c_lVersion E) := (tt Tryd.func19 (by kernel_rfl) (by kernel_rfl) (by kernel_rfl) (by decide))
theorem sm : Text Tryd.prog E.sSame 2 26 #[.tmp 4] (c_sSame E) := (tt Tryd.func10 (by kernel_rfl) (by kernel_rfl) (by kernel_rfl) (by decide))
theorem i16k : intT Tryd.prog E.tI16 = some .i16 := by kernel_rfl
theorem ik : intT Tryd.prog E.tI = some .i64 := by kernel_rfl
theorem o16 : oneT Tryd.prog E.tI16 = true := by kernel_rfl
theorem ifE : ifaceT Tryd.prog E.tErr = true := by kernel_rfl
theorem lf : Tryd.prog.liftsFinal = false := by kernel_rfl
theorem me : Tryd.prog.mayEnter = true := by kernel_rfl
theorem lo : laidOutB Tryd.prog = true := by kernel_rfl
theorem own : ownKnob Tryd.prog.godebug = none := by kernel_rfl
end Go.Proofs.YtnbhpeaapbpaeaaDoor
