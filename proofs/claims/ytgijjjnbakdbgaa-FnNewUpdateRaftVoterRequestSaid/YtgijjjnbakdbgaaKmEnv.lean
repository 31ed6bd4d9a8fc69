/- The numbers of this translation; its functions of kbin and of the spec have the texts that the contracts are about; its types are laid as they ask. -/
import Derived.Test.YtgijjjnbakdbgaaKmN2
import Derived.Test.YtgijjjnbakdbgaaRows
set_option linter.unusedVariables false
namespace Go.Proofs.Ytgijjjnbakdbgaa
open Go Go.Km
def E : Env := { tErr := 0, tI8 := 151, tI16 := 38, tI32 := 21, tI64 := 2, tU8 := 5, tU16 := 135, tU32 := 79, tU64 := 86, tBool := 4, tF64 := 0, tInt := 3, tStr := 9, tPStr := 90, tBytes := 28, tUuid := 127, tTags := 72, tPTags := 189, tRd := 0, tPRd := 0, rI8 := 0, rI16 := 0, rI32 := 0, rI64 := 0, rU16 := 0, rBool := 0, rF64 := 0, rUuid := 0, rStr := 0, rUStr := 0, rCStr := 0, rUCStr := 0, rNStr := 0, rUNStr := 0, rCNStr := 0, rUCNStr := 0, rBytes := 0, rCBytes := 0, rNBytes := 0, rCNBytes := 0, rLen := 0, rCLen := 0, rOk := 0, rComplete := 0, rTags := 0, wI8 := 152, wI16 := 118, wI32 := 131, wI64 := 117, wU16 := 147, wBool := 150, wF64 := 0, wUuid := 146, wStr := 116, wCStr := 115, wNStr := 133, wCNStr := 132, wBytes := 0, wCBytes := 0, wNBytes := 0, wCNBytes := 0, wLen := 138, wCLen := 137, wNLen := 144, wCNLen := 143, wUvarint := 119, tLen := 120, tEach := 121, tUint := 188, tFld := 43, tFlds := 23, tTree := 35, tTrees := 32, tUnk := 89, tUnks := 33, tMsg := 25, wU32 := 167, wU64 := 157, uvLen := 158, len32 := 169, sHas := 122, sNull := 161, sWhole := 129, sThings := 162, sAt := 124, sUvar := 127, sFixed := 165, sWidth := 166, sCounted := 163, sValue := 164, sField := 123, sUsual := 126, sKnown := 125, sUnknown := 128, sPart := 59, sDefault := 21, sWrite := 20, sKept := 0, sSame := 17, lVersion := 19, tTagMap := 70, tU32s := 198, tFnTag := 191, tFnLess := 200, tAny := 20, gAll := 159, gEach1 := 160, gAll1 := 171, gSet := 0, sortSlice := 170, rUvar := 0, rSpan := 0 }
theorem tt {P : Program} {f : FuncId} {fn : Func} {np nt : Nat} {res : Array ResultVar} {c : Code} (h : P.funcs[f]? = some fn) (hb : fn.body.map bare = some c) (hn : fn.ntmps = nt) (hr : fn.results = res) (hne : fn.name ≠ "runtime.NumGoroutine") : Text P f np nt res c := ⟨fn, h, hb, hn, hr, hne⟩
theorem kt : KTexts Try.prog E where
  wBool := fun _ => tt Try.func150 (by kernel_rfl) (by kernel_rfl) (by kernel_rfl) (by decide)
  wI8 := fun _ => tt Try.func152 (by kernel_rfl) (by kernel_rfl) (by kernel_rfl) (by decide)
  wI16 := fun _ => tt Try.func118 (by kernel_rfl) (by kernel_rfl) (by kernel_rfl) (by decide)
  wU16 := fun _ => tt Try.func147 (by kernel_rfl) (by kernel_rfl) (by kernel_rfl) (by decide)
  wI32 := fun _ => tt Try.func131 (by kernel_rfl) (by kernel_rfl) (by kernel_rfl) (by decide)
  wU32 := fun _ => tt Try.func167 (by kernel_rfl) (by kernel_rfl) (by kernel_rfl) (by decide)
  wI64 := fun _ => tt Try.func117 (by kernel_rfl) (by kernel_rfl) (by kernel_rfl) (by decide)
  wU64 := fun _ => tt Try.func157 (by kernel_rfl) (by kernel_rfl) (by kernel_rfl) (by decide)
  wUuid := fun _ => tt Try.func146 (by kernel_rfl) (by kernel_rfl) (by kernel_rfl) (by decide)
  wStr := fun _ => tt Try.func116 (by kernel_rfl) (by kernel_rfl) (by kernel_rfl) (by decide)
  wCStr := fun _ => tt Try.func115 (by kernel_rfl) (by kernel_rfl) (by kernel_rfl) (by decide)
  wNStr := fun _ => tt Try.func133 (by kernel_rfl) (by kernel_rfl) (by kernel_rfl) (by decide)
  wCNStr := fun _ => tt Try.func132 (by kernel_rfl) (by kernel_rfl) (by kernel_rfl) (by decide)
  wBytes := fun h => absurd rfl h
  wCBytes := fun h => absurd rfl h
  wNBytes := fun h => absurd rfl h
  wCNBytes := fun h => absurd rfl h
  wLen := fun _ => tt Try.func138 (by kernel_rfl) (by kernel_rfl) (by kernel_rfl) (by decide)
  wCLen := fun _ => tt Try.func137 (by kernel_rfl) (by kernel_rfl) (by kernel_rfl) (by decide)
  wNLen := fun _ => tt Try.func144 (by kernel_rfl) (by kernel_rfl) (by kernel_rfl) (by decide)
  wCNLen := fun _ => tt Try.func143 (by kernel_rfl) (by kernel_rfl) (by kernel_rfl) (by decide)
  uvLen := fun _ => tt Try.func158 (by kernel_rfl) (by kernel_rfl) (by kernel_rfl) (by decide)
  len32 := fun _ => tt Try.func169 (by kernel_rfl) (by kernel_rfl) (by kernel_rfl) (by decide)
  wUvarint := fun _ => tt Try.func119 (by kernel_rfl) (by kernel_rfl) (by kernel_rfl) (by decide)
  tLen := fun _ => tt Try.func120 (by kernel_rfl) (by kernel_rfl) (by kernel_rfl) (by decide)
  tEach := fun _ => tt Try.func121 (by kernel_rfl) (by kernel_rfl) (by kernel_rfl) (by decide)
  gAll := fun _ => tt Try.func159 (by kernel_rfl) (by kernel_rfl) (by kernel_rfl) (by decide)
theorem st : STexts Try.prog E where
  has := tt Try.func122 (by kernel_rfl) (by kernel_rfl) (by kernel_rfl) (by decide)
  null := tt Try.func161 (by kernel_rfl) (by kernel_rfl) (by kernel_rfl) (by decide)
  whole := tt Try.func129 (by kernel_rfl) (by kernel_rfl) (by kernel_rfl) (by decide)
  things := tt Try.func162 (by kernel_rfl) (by kernel_rfl) (by kernel_rfl) (by decide)
  at' := tt Try.func124 (by kernel_rfl) (by kernel_rfl) (by kernel_rfl) (by decide)
  uvar := tt Try.func127 (by kernel_rfl) (by kernel_rfl) (by kernel_rfl) (by decide)
  fixed := tt Try.func165 (by kernel_rfl) (by kernel_rfl) (by kernel_rfl) (by decide)
  width := tt Try.func166 (by kernel_rfl) (by kernel_rfl) (by kernel_rfl) (by decide)
  counted := tt Try.func163 (by kernel_rfl) (by kernel_rfl) (by kernel_rfl) (by decide)
  value := tt Try.func164 (by kernel_rfl) (by kernel_rfl) (by kernel_rfl) (by decide)
  field := tt Try.func123 (by kernel_rfl) (by kernel_rfl) (by kernel_rfl) (by decide)
  known := tt Try.func125 (by kernel_rfl) (by kernel_rfl) (by kernel_rfl) (by decide)
  usual := tt Try.func126 (by kernel_rfl) (by kernel_rfl) (by kernel_rfl) (by decide)
  unknown := tt Try.func128 (by kernel_rfl) (by kernel_rfl) (by kernel_rfl) (by decide)
  part := tt Try.func59 (by kernel_rfl) (by kernel_rfl) (by kernel_rfl) (by decide)
  dflt := tt Try.func21 (by kernel_rfl) (by kernel_rfl) (by kernel_rfl) (by decide)
  write := tt Try.func20 (by kernel_rfl) (by kernel_rfl) (by kernel_rfl) (by decide)
  same := tt Try.func17 (by kernel_rfl) (by kernel_rfl) (by kernel_rfl) (by decide)
  mixed := by kernel_rfl
theorem se : SEnv Try.prog E where
  row := by kernel_rfl
  u8 := by kernel_rfl
  int := by kernel_rfl
  i64 := by kernel_rfl
  u32 := by kernel_rfl
  u64 := by kernel_rfl
  oInt := by kernel_rfl
  oI64 := by kernel_rfl
  oU32 := by kernel_rfl
  oU8 := by kernel_rfl
  oBool := by kernel_rfl
  oBytes := by kernel_rfl
  oTrees := by kernel_rfl
  oFlds := by kernel_rfl
  oUnks := by kernel_rfl
  fFld := by kernel_rfl
  fTree := by kernel_rfl
  fUnk := by kernel_rfl
  aFld := by kernel_rfl
  aTree := by kernel_rfl
  aUnk := by kernel_rfl
  sFlds := by kernel_rfl
  rTrees := by kernel_rfl
  rUnks := by kernel_rfl
theorem sl : SLay Try.prog E where
  tree := by kernel_rfl
  fld := by kernel_rfl
  msg := by kernel_rfl
  unk := by kernel_rfl
theorem ew : EnvW Try.prog E (fun tags => tags = []) := envW0 kt (by kernel_rfl)
theorem ei : EnvI Try.prog E := ⟨by kernel_rfl, by kernel_rfl⟩
theorem lv : Text Try.prog E.lVersion 2 10 #[.tmp 4] (c_lVersion E) := tt Try.func19 (by kernel_rfl) (by kernel_rfl) (by kernel_rfl) (by decide)
theorem hz8 : zeroT Try.prog E.tU8 = some (.int .u8 0) := by kernel_rfl
theorem hL3 : oneField Try.prog E.tTree 3 3 = true := by kernel_rfl
theorem hoM : offs Try.prog E.tMsg 2 = true := by kernel_rfl
theorem hM : aggT Try.prog E.tMsg = some 2 := by kernel_rfl
theorem hrF : rowB Try.prog E.tFlds E.tFld 8 = true := by kernel_rfl
theorem i16k : intT Try.prog E.tI16 = some .i16 := by kernel_rfl
theorem ik : intT Try.prog E.tInt = some .i64 := by kernel_rfl
theorem o16 : oneT Try.prog E.tI16 = true := by kernel_rfl
theorem lf : Try.prog.liftsFinal = false := by kernel_rfl
theorem me : Try.prog.mayEnter = true := by kernel_rfl
theorem own : ownKnob Try.prog.godebug = none := by kernel_rfl
end Go.Proofs.Ytgijjjnbakdbgaa
