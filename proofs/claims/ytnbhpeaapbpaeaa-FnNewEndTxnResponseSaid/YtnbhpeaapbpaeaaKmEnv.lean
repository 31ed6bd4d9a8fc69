/- The numbers of this translation; its functions of kbin and of the spec have the texts that the contracts are about; its types are laid as they ask. -/
import Derived.Test.YtnbhpeaapbpaeaaKmN2
import Derived.Test.YtnbhpeaapbpaeaaRows
set_option linter.unusedVariables false
namespace Go.Proofs.Ytnbhpeaapbpaeaa
open Go Go.Km
def E : Env := { tErr := 0, tI8 := 0, tI16 := 47, tI32 := 21, tI64 := 2, tU8 := 5, tU16 := 77, tU32 := 65, tU64 := 72, tBool := 4, tF64 := 0, tInt := 3, tStr := 9, tPStr := 0, tBytes := 35, tUuid := 0, tTags := 58, tPTags := 81, tRd := 0, tPRd := 0, rI8 := 0, rI16 := 0, rI32 := 0, rI64 := 0, rU16 := 0, rBool := 0, rF64 := 0, rUuid := 0, rStr := 0, rUStr := 0, rCStr := 0, rUCStr := 0, rNStr := 0, rUNStr := 0, rCNStr := 0, rUCNStr := 0, rBytes := 0, rCBytes := 0, rNBytes := 0, rCNBytes := 0, rLen := 0, rCLen := 0, rOk := 0, rComplete := 0, rTags := 0, wI8 := 0, wI16 := 24, wI32 := 23, wI64 := 25, wU16 := 38, wBool := 0, wF64 := 0, wUuid := 0, wStr := 0, wCStr := 0, wNStr := 0, wCNStr := 0, wBytes := 0, wCBytes := 0, wNBytes := 0, wCNBytes := 0, wLen := 0, wCLen := 0, wNLen := 0, wCNLen := 0, wUvarint := 26, tLen := 27, tEach := 28, tUint := 80, tFld := 52, tFlds := 30, tTree := 42, tTrees := 39, tUnk := 75, tUnks := 40, tMsg := 32, wU32 := 37, wU64 := 39, uvLen := 40, len32 := 49, sHas := 29, sNull := 43, sWhole := 36, sThings := 44, sAt := 31, sUvar := 34, sFixed := 47, sWidth := 48, sCounted := 45, sValue := 46, sField := 30, sUsual := 33, sKnown := 32, sUnknown := 35, sPart := 21, sDefault := 15, sWrite := 14, sKept := 0, sSame := 11, lVersion := 13, tTagMap := 56, tU32s := 90, tFnTag := 83, tFnLess := 92, tAny := 20, gAll := 41, gEach1 := 42, gAll1 := 51, gSet := 0, sortSlice := 50, rUvar := 0, rSpan := 0, rU64 := 0, kUv := 0, kUs := 0, bU16 := 0, bU32 := 0, bU64 := 0, f64b := 0, f64f := 0, tBE := 0, tUvR := 0, vErr := 0, vBE := 0 }
theorem tt {P : Program} {f : FuncId} {fn : Func} {np nt : Nat} {res : Array ResultVar} {c : Code} (h : P.funcs[f]? = some fn) (hb : fn.body.map bare = some c) (hn : fn.ntmps = nt) (hr : fn.results = res) (hne : fn.name ≠ "runtime.NumGoroutine") : Text P f np nt res c := ⟨fn, h, hb, hn, hr, hne⟩
theorem kt : KTexts Try.prog E where
  wBool := fun h => absurd rfl h
  wI8 := fun h => absurd rfl h
  wI16 := fun _ => tt Try.func24 (by kernel_rfl) (by kernel_rfl) (by kernel_rfl) (by decide)
  wU16 := fun _ => tt Try.func38 (by kernel_rfl) (by kernel_rfl) (by kernel_rfl) (by decide)
  wI32 := fun _ => tt Try.func23 (by kernel_rfl) (by kernel_rfl) (by kernel_rfl) (by decide)
  wU32 := fun _ => tt Try.func37 (by kernel_rfl) (by kernel_rfl) (by kernel_rfl) (by decide)
  wI64 := fun _ => tt Try.func25 (by kernel_rfl) (by kernel_rfl) (by kernel_rfl) (by decide)
  wU64 := fun _ => tt Try.func39 (by kernel_rfl) (by kernel_rfl) (by kernel_rfl) (by decide)
  wUuid := fun h => absurd rfl h
  wStr := fun h => absurd rfl h
  wCStr := fun h => absurd rfl h
  wNStr := fun h => absurd rfl h
  wCNStr := fun h => absurd rfl h
  wBytes := fun h => absurd rfl h
  wCBytes := fun h => absurd rfl h
  wNBytes := fun h => absurd rfl h
  wCNBytes := fun h => absurd rfl h
  wLen := fun h => absurd rfl h
  wCLen := fun h => absurd rfl h
  wNLen := fun h => absurd rfl h
  wCNLen := fun h => absurd rfl h
  uvLen := fun _ => tt Try.func40 (by kernel_rfl) (by kernel_rfl) (by kernel_rfl) (by decide)
  len32 := fun _ => tt Try.func49 (by kernel_rfl) (by kernel_rfl) (by kernel_rfl) (by decide)
  wUvarint := fun _ => tt Try.func26 (by kernel_rfl) (by kernel_rfl) (by kernel_rfl) (by decide)
  tLen := fun _ => tt Try.func27 (by kernel_rfl) (by kernel_rfl) (by kernel_rfl) (by decide)
  tEach := fun _ => tt Try.func28 (by kernel_rfl) (by kernel_rfl) (by kernel_rfl) (by decide)
  gAll := fun _ => tt Try.func41 (by kernel_rfl) (by kernel_rfl) (by kernel_rfl) (by decide)
theorem st : STexts Try.prog E where
  has := tt Try.func29 (by kernel_rfl) (by kernel_rfl) (by kernel_rfl) (by decide)
  null := tt Try.func43 (by kernel_rfl) (by kernel_rfl) (by kernel_rfl) (by decide)
  whole := tt Try.func36 (by kernel_rfl) (by kernel_rfl) (by kernel_rfl) (by decide)
  things := tt Try.func44 (by kernel_rfl) (by kernel_rfl) (by kernel_rfl) (by decide)
  at' := tt Try.func31 (by kernel_rfl) (by kernel_rfl) (by kernel_rfl) (by decide)
  uvar := tt Try.func34 (by kernel_rfl) (by kernel_rfl) (by kernel_rfl) (by decide)
  fixed := tt Try.func47 (by kernel_rfl) (by kernel_rfl) (by kernel_rfl) (by decide)
  width := tt Try.func48 (by kernel_rfl) (by kernel_rfl) (by kernel_rfl) (by decide)
  counted := tt Try.func45 (by kernel_rfl) (by kernel_rfl) (by kernel_rfl) (by decide)
  value := tt Try.func46 (by kernel_rfl) (by kernel_rfl) (by kernel_rfl) (by decide)
  field := tt Try.func30 (by kernel_rfl) (by kernel_rfl) (by kernel_rfl) (by decide)
  known := tt Try.func32 (by kernel_rfl) (by kernel_rfl) (by kernel_rfl) (by decide)
  usual := tt Try.func33 (by kernel_rfl) (by kernel_rfl) (by kernel_rfl) (by decide)
  unknown := tt Try.func35 (by kernel_rfl) (by kernel_rfl) (by kernel_rfl) (by decide)
  part := tt Try.func21 (by kernel_rfl) (by kernel_rfl) (by kernel_rfl) (by decide)
  dflt := tt Try.func15 (by kernel_rfl) (by kernel_rfl) (by kernel_rfl) (by decide)
  write := tt Try.func14 (by kernel_rfl) (by kernel_rfl) (by kernel_rfl) (by decide)
  same := tt Try.func11 (by kernel_rfl) (by kernel_rfl) (by kernel_rfl) (by decide)
  mixed := by kernel_rfl
theorem se : SEnv Try.prog E where
  row := by kernel_rfl
  u8 := by kernel_rfl
  int := by kernel_rfl
  i64 := by kernel_rfl
  u32 := by kernel_rfl
  u64 := by kernel_rfl
  oInt := by kernel_rfl
  oI64 := by kernel_rfl
  oU32 := by kernel_rfl
  oU8 := by kernel_rfl
  oBool := by kernel_rfl
  oBytes := by kernel_rfl
  oTrees := by kernel_rfl
  oFlds := by kernel_rfl
  oUnks := by kernel_rfl
  fFld := by kernel_rfl
  fTree := by kernel_rfl
  fUnk := by kernel_rfl
  aFld := by kernel_rfl
  aTree := by kernel_rfl
  aUnk := by kernel_rfl
  sFlds := by kernel_rfl
  rTrees := by kernel_rfl
  rUnks := by kernel_rfl
theorem sl : SLay Try.prog E where
  tree := by kernel_rfl
  fld := by kernel_rfl
  msg := by kernel_rfl
  unk := by kernel_rfl
theorem ew : EnvW Try.prog E (fun tags => tags = []) := envW0 kt (by kernel_rfl)
theorem ei : EnvI Try.prog E := ⟨by kernel_rfl, by kernel_rfl⟩
theorem lv : Text Try.prog E.lVersion 2 10 #[.tmp 4] (c_lVersion E) := tt Try.func13 (by kernel_rfl) (by kernel_rfl) (by kernel_rfl) (by decide)
theorem hz8 : zeroT Try.prog E.tU8 = some (.int .u8 0) := by kernel_rfl
theorem hL3 : oneField Try.prog E.tTree 3 3 = true := by kernel_rfl
theorem hoM : offs Try.prog E.tMsg 2 = true := by kernel_rfl
theorem hM : aggT Try.prog E.tMsg = some 2 := by kernel_rfl
theorem hrF : rowB Try.prog E.tFlds E.tFld 8 = true := by kernel_rfl
theorem i16k : intT Try.prog E.tI16 = some .i16 := by kernel_rfl
theorem ik : intT Try.prog E.tInt = some .i64 := by kernel_rfl
theorem o16 : oneT Try.prog E.tI16 = true := by kernel_rfl
theorem lf : Try.prog.liftsFinal = false := by kernel_rfl
theorem me : Try.prog.mayEnter = true := by kernel_rfl
theorem own : ownKnob Try.prog.godebug = none := by kernel_rfl
end Go.Proofs.Ytnbhpeaapbpaeaa
