/- The numbers of this translation; its functions of kbin have the texts that the contracts are about; its types are laid as they ask. -/
import Derived.Test.YtfgpkjcmhiclbaaDoorKb00
import Derived.Test.YtfgpkjcmhiclbaaDoorKb01
import Derived.Test.YtfgpkjcmhiclbaaDoorKb02
import Derived.Test.YtfgpkjcmhiclbaaDoorKb03
import Derived.Test.YtfgpkjcmhiclbaaDoorKb04
import Derived.Test.YtfgpkjcmhiclbaaDoorKb05
import Derived.Test.YtfgpkjcmhiclbaaDoorRows
set_option linter.unusedVariables false
namespace Go.Proofs.YtfgpkjcmhiclbaaDoor
open Go Go.Km
def E : Env := { tErr := 47, tI8 := 108, tI16 := 41, tI32 := 21, tI64 := 2, tU8 := 5, tU16 := 33, tW := 94, tU64 := 106, tO := 4, tF64 := 0, tI := 3, tStr := 9, tPStr := 72, tB := 22, tUuid := 88, tTags := 65, tPTags := 132, tRd := 120, tPRd := 128, rI8 := 119, rI16 := 93, rI32 := 87, rI64 := 122, rU16 := 0, rBool := 118, rF64 := 0, rUuid := 105, rStr := 101, rUStr := 99, rCStr := 100, rUCStr := 98, rNStr := 97, rUNStr := 96, rCNStr := 95, rUCNStr := 94, rBytes := 121, rCBytes := 120, rNBytes := 0, rCNBytes := 0, rLen := 89, rCLen := 88, rOk := 90, rComplete := 91, rTags := 106, wI8 := 79, wI16 := 56, wI32 := 53, wI64 := 84, wU16 := 108, wBool := 78, wF64 := 0, wUuid := 61, wStr := 60, wCStr := 59, wNStr := 58, wCNStr := 57, wBytes := 83, wCBytes := 82, wNBytes := 0, wCNBytes := 0, wLen := 55, wCLen := 54, wNLen := 0, wCNLen := 0, wUvarint := 62, tLen := 63, tEach := 64, tUint := 131, tFld := 55, tFlds := 36, tT := 32, tS := 29, tUnk := 96, tK := 30, tMsg := 38, wU32 := 107, wU64 := 123, uvLen := 109, len32 := 130, sHas := 67, sNull := 112, sWhole := 74, sThings := 113, sAt := 69, sUvar := 72, sFixed := 116, sWidth := 117, sCounted := 114, sValue := 115, sField := 68, sUsual := 71, sKnown := 70, sUnknown := 73, sPart := 32, sDefault := 0, sWrite := 14, sKept := 0, sSame := 11, lVersion := 10, tTagMap := 63, tU32s := 152, tFnTag := 134, tFnLess := 154, tAny := 20, gAll := 110, gEach1 := 111, gAll1 := 132, gSet := 129, sortSlice := 131, rUvar := 125, rSpan := 128, rU64 := 133, kUv := 134, kUs := 127, bU16 := 126, bU32 := 124, bU64 := 140, f64b := 0, f64f := 0, tBE := 146, tUvR := 156, vErr := 1, vBE := 0 }
theorem tt {Q : Program} {f : FuncId} {fn : Func} {np nt : Nat} {res : Array ResultVar} {c : Code} (h : Q.funcs[f]? = some fn) (hb : fn.body.map bare = some c) (hn : fn.ntmps = nt) (hr : fn.results = res) (hne : fn.name ≠ "runtime.NumGoroutine") : Text Q f np nt res c := ⟨fn, h, hb, hn, hr, hne⟩
theorem kt : KTexts Tryd.prog E where
  wBool := fun _ => (tt Tryd.func78 (by kernel_rfl) (by kernel_rfl) (by kernel_rfl) (by decide))
  wI8 := fun _ => (tt Tryd.func79 (by kernel_rfl) (by kernel_rfl) (by kernel_rfl) (by decide))
  wI16 := fun _ => (tt Tryd.func56 (by kernel_rfl) (by kernel_rfl) (by kernel_rfl) (by decide))
  wU16 := fun _ => (tt Tryd.func108 (by kernel_rfl) (by kernel_rfl) (by kernel_rfl) (by decide))
  wI32 := fun _ => (tt Tryd.func53 (by kernel_rfl) (by kernel_rfl) (by kernel_rfl) (by decide))
  wU32 := fun _ => (tt Tryd.func107 (by kernel_rfl) (by kernel_rfl) (by kernel_rfl) (by decide))
  wI64 := fun _ => (tt Tryd.func84 (by kernel_rfl) (by kernel_rfl) (by kernel_rfl) (by decide))
  wU64 := fun _ => (tt Tryd.func123 (by kernel_rfl) (by kernel_rfl) (by kernel_rfl) (by decide))
  wUuid := fun _ => (tt Tryd.func61 (by kernel_rfl) (by kernel_rfl) (by kernel_rfl) (by decide))
  wStr := fun _ => (tt Tryd.func60 (by kernel_rfl) (by kernel_rfl) (by kernel_rfl) (by decide))
  wCStr := fun _ => (tt Tryd.func59 (by kernel_rfl) (by kernel_rfl) (by kernel_rfl) (by decide))
  wNStr := fun _ => (tt Tryd.func58 (by kernel_rfl) (by kernel_rfl) (by kernel_rfl) (by decide))
  wCNStr := fun _ => (tt Tryd.func57 (by kernel_rfl) (by kernel_rfl) (by kernel_rfl) (by decide))
  wBytes := fun _ => (tt Tryd.func83 (by kernel_rfl) (by kernel_rfl) (by kernel_rfl) (by decide))
  wCBytes := fun _ => (tt Tryd.func82 (by kernel_rfl) (by kernel_rfl) (by kernel_rfl) (by decide))
  wNBytes := fun h => absurd rfl h
  wCNBytes := fun h => absurd rfl h
  wLen := fun _ => (tt Tryd.func55 (by kernel_rfl) (by kernel_rfl) (by kernel_rfl) (by decide))
  wCLen := fun _ => (tt Tryd.func54 (by kernel_rfl) (by kernel_rfl) (by kernel_rfl) (by decide))
  wNLen := fun h => absurd rfl h
  wCNLen := fun h => absurd rfl h
  uvLen := fun _ => (tt Tryd.func109 (by kernel_rfl) (by kernel_rfl) (by kernel_rfl) (by decide))
  len32 := fun _ => (tt Tryd.func130 (by kernel_rfl) (by kernel_rfl) (by kernel_rfl) (by decide))
  wUvarint := fun _ => (tt Tryd.func62 (by kernel_rfl) (by kernel_rfl) (by kernel_rfl) (by decide))
  tLen := fun _ => (tt Tryd.func63 (by kernel_rfl) (by kernel_rfl) (by kernel_rfl) (by decide))
  tEach := fun _ => (tt Tryd.func64 (by kernel_rfl) (by kernel_rfl) (by kernel_rfl) (by decide))
  gAll := fun _ => (tt Tryd.func110 (by kernel_rfl) (by kernel_rfl) (by kernel_rfl) (by decide))
theorem rt : RTexts Tryd.prog E where
  mixed := (by kernel_rfl)
  row := (by kernel_rfl)
  u8 := (by kernel_rfl)
  int := (by kernel_rfl)
  oBytes := (by kernel_rfl)
  oBool := (by kernel_rfl)
  oU8 := (by kernel_rfl)
  f0 := (by kernel_rfl)
  f1 := (by kernel_rfl)
  i32 := (by kernel_rfl)
  oE := (by kernel_rfl)
  rOk := (tt Tryd.func90 (by kernel_rfl) (by kernel_rfl) (by kernel_rfl) (by decide))
  rComplete := (tt Tryd.func91 (by kernel_rfl) (by kernel_rfl) (by kernel_rfl) (by decide))
  rI8 := fun _ => ⟨(by kernel_rfl), (tt Tryd.func119 (by kernel_rfl) (by kernel_rfl) (by kernel_rfl) (by decide))⟩
  rBool := fun _ => (tt Tryd.func118 (by kernel_rfl) (by kernel_rfl) (by kernel_rfl) (by decide))
  rI16 := fun _ => ⟨(by kernel_rfl), (by kernel_rfl), (by kernel_rfl), (tt Tryd.func126 (by kernel_rfl) (by kernel_rfl) (by kernel_rfl) (by decide)), (tt Tryd.func93 (by kernel_rfl) (by kernel_rfl) (by kernel_rfl) (by decide))⟩
  rU16 := fun h => absurd rfl h
  rI32 := fun _ => ⟨(by kernel_rfl), (by kernel_rfl), (tt Tryd.func124 (by kernel_rfl) (by kernel_rfl) (by kernel_rfl) (by decide)), (tt Tryd.func87 (by kernel_rfl) (by kernel_rfl) (by kernel_rfl) (by decide))⟩
  rI64 := fun _ => ⟨(by kernel_rfl), (by kernel_rfl), (by kernel_rfl), (tt Tryd.func140 (by kernel_rfl) (by kernel_rfl) (by kernel_rfl) (by decide)), (tt Tryd.func133 (by kernel_rfl) (by kernel_rfl) (by kernel_rfl) (by decide)), (tt Tryd.func122 (by kernel_rfl) (by kernel_rfl) (by kernel_rfl) (by decide))⟩
  rUvar := fun _ => ⟨(by kernel_rfl), (tt Tryd.func134 (by kernel_rfl) (by kernel_rfl) (by kernel_rfl) (by decide)), (tt Tryd.func125 (by kernel_rfl) (by kernel_rfl) (by kernel_rfl) (by decide))⟩
  rSpan := fun _ => (tt Tryd.func128 (by kernel_rfl) (by kernel_rfl) (by kernel_rfl) (by decide))
  rStr := fun _ => ⟨(by kernel_rfl), (by decide), (by decide), (tt Tryd.func101 (by kernel_rfl) (by kernel_rfl) (by kernel_rfl) (by decide))⟩
  rCStr := fun _ => ⟨(by kernel_rfl), (by decide), (by decide), (tt Tryd.func100 (by kernel_rfl) (by kernel_rfl) (by kernel_rfl) (by decide))⟩
  rNStr := fun _ => ⟨(by kernel_rfl), (by kernel_rfl), (by kernel_rfl), (by decide), (by decide), (tt Tryd.func97 (by kernel_rfl) (by kernel_rfl) (by kernel_rfl) (by decide))⟩
  rCNStr := fun _ => ⟨(by kernel_rfl), (by kernel_rfl), (by kernel_rfl), (by decide), (by decide), (tt Tryd.func95 (by kernel_rfl) (by kernel_rfl) (by kernel_rfl) (by decide))⟩
  rBytes := fun _ => ⟨(by decide), (by decide), (tt Tryd.func121 (by kernel_rfl) (by kernel_rfl) (by kernel_rfl) (by decide))⟩
  rCBytes := fun _ => ⟨(by decide), (by decide), (tt Tryd.func120 (by kernel_rfl) (by kernel_rfl) (by kernel_rfl) (by decide))⟩
  rNBytes := fun h => absurd rfl h
  rCNBytes := fun h => absurd rfl h
  rLen := fun _ => ⟨(by decide), (tt Tryd.func89 (by kernel_rfl) (by kernel_rfl) (by kernel_rfl) (by decide))⟩
  rCLen := fun _ => ⟨(by decide), (tt Tryd.func88 (by kernel_rfl) (by kernel_rfl) (by kernel_rfl) (by decide))⟩
def sl6_ren : Go.Shelf.Ren := ⟨fun | 6 => 131 | 10 => 135 | 11 => 136 | 12 => 137 | 13 => 138 | 14 => 139 | 24 => 130 | 25 => 150 | 26 => 151 | 27 => 152 | 28 => 153 | 29 => 154 | 30 => 155 | 31 => 156 | 32 => 157 | 33 => 158 | 34 => 159 | 35 => 160 | 36 => 161 | 37 => 162 | 38 => 163 | 39 => 164 | n => n, fun | 20 => 20 | 26 => 154 | 35 => 161 | 0 => 0 | 37 => 163 | 3 => 3 | 41 => 131 | 44 => 168 | 49 => 94 | 51 => 106 | 4 => 4 | 54 => 176 | 53 => 175 | 58 => 180 | 5 => 5 | 9 => 9 | 60 => 182 | 64 => 185 | 66 => 187 | 67 => 188 | 17 => 17 | 32 => 158 | 33 => 159 | 82 => 203 | 12 => 12 | 75 => 196 | 76 => 197 | 77 => 198 | 78 => 199 | 79 => 200 | 80 => 201 | n => n, fun | n => n⟩
theorem sl6 : Go.Proofs.LaysGg.n6 Tryd.prog sl6_ren where
  mixed := by kernel_rfl
  f6 := Tryd.func131.trans (congrArg some (by kernel_rfl))
  f10 := Tryd.func135.trans (congrArg some (by kernel_rfl))
  f11 := Tryd.func136.trans (congrArg some (by kernel_rfl))
  f12 := Tryd.func137.trans (congrArg some (by kernel_rfl))
  f13 := Tryd.func138.trans (congrArg some (by kernel_rfl))
  f14 := Tryd.func139.trans (congrArg some (by kernel_rfl))
  f24 := Tryd.func130.trans (congrArg some (by kernel_rfl))
  f25 := Tryd.func150.trans (congrArg some (by kernel_rfl))
  f26 := Tryd.func151.trans (congrArg some (by kernel_rfl))
  f27 := Tryd.func152.trans (congrArg some (by kernel_rfl))
  f28 := Tryd.func153.trans (congrArg some (by kernel_rfl))
  f29 := Tryd.func154.trans (congrArg some (by kernel_rfl))
  f30 := Tryd.func155.trans (congrArg some (by kernel_rfl))
  f31 := Tryd.func156.trans (congrArg some (by kernel_rfl))
  f32 := Tryd.func157.trans (congrArg some (by kernel_rfl))
  f33 := Tryd.func158.trans (congrArg some (by kernel_rfl))
  f34 := Tryd.func159.trans (congrArg some (by kernel_rfl))
  f35 := Tryd.func160.trans (congrArg some (by kernel_rfl))
  f36 := Tryd.func161.trans (congrArg some (by kernel_rfl))
  f37 := Tryd.func162.trans (congrArg some (by kernel_rfl))
  f38 := Tryd.func163.trans (congrArg some (by kernel_rfl))
  f39 := Tryd.func164.trans (congrArg some (by kernel_rfl))
  t0 := Tryd.underlying0
  a0 := Tryd.isAgg0
  z0 := Tryd.sizeOf0
  v0 := Tryd.zeroValue0
  i0 := by kernel_rfl
  t3 := Tryd.underlying3
  a3 := Tryd.isAgg3
  z3 := Tryd.sizeOf3
  v3 := Tryd.zeroValue3
  i3 := by kernel_rfl
  t4 := Tryd.underlying4
  a4 := Tryd.isAgg4
  z4 := Tryd.sizeOf4
  v4 := Tryd.zeroValue4
  i4 := by kernel_rfl
  t5 := Tryd.underlying5
  a5 := Tryd.isAgg5
  z5 := Tryd.sizeOf5
  v5 := Tryd.zeroValue5
  i5 := by kernel_rfl
  t9 := Tryd.underlying9
  a9 := Tryd.isAgg9
  z9 := Tryd.sizeOf9
  v9 := Tryd.zeroValue9
  i9 := by kernel_rfl
  t12 := Tryd.underlying12
  a12 := Tryd.isAgg12
  z12 := Tryd.sizeOf12
  v12 := Tryd.zeroValue12
  i12 := by kernel_rfl
  t17 := Tryd.underlying17
  a17 := Tryd.isAgg17
  z17 := Tryd.sizeOf17
  v17 := Tryd.zeroValue17
  i17 := by kernel_rfl
  t20 := Tryd.underlying20
  a20 := Tryd.isAgg20
  z20 := Tryd.sizeOf20
  v20 := Tryd.zeroValue20
  i20 := by kernel_rfl
  t26 := Tryd.underlying154
  a26 := Tryd.isAgg154
  z26 := Tryd.sizeOf154
  v26 := Tryd.zeroValue154
  i26 := by kernel_rfl
  t32 := Tryd.underlying158
  a32 := Tryd.isAgg158
  z32 := Tryd.sizeOf158
  v32 := Tryd.zeroValue158
  i32 := by kernel_rfl
  t33 := Tryd.underlying159
  a33 := Tryd.isAgg159
  z33 := Tryd.sizeOf159
  v33 := Tryd.zeroValue159
  i33 := by kernel_rfl
  t35 := Tryd.underlying161
  a35 := Tryd.isAgg161
  z35 := Tryd.sizeOf161
  v35 := Tryd.zeroValue161
  i35 := by kernel_rfl
  t37 := Tryd.underlying163
  a37 := Tryd.isAgg163
  z37 := Tryd.sizeOf163
  v37 := Tryd.zeroValue163
  i37 := by kernel_rfl
  t41 := Tryd.underlying131
  a41 := Tryd.isAgg131
  z41 := Tryd.sizeOf131
  v41 := Tryd.zeroValue131
  i41 := by kernel_rfl
  t44 := Tryd.underlying168
  a44 := Tryd.isAgg168
  z44 := Tryd.sizeOf168
  v44 := Tryd.zeroValue168
  i44 := by kernel_rfl
  t49 := Tryd.underlying94
  a49 := Tryd.isAgg94
  z49 := Tryd.sizeOf94
  v49 := Tryd.zeroValue94
  i49 := by kernel_rfl
  t51 := Tryd.underlying106
  a51 := Tryd.isAgg106
  z51 := Tryd.sizeOf106
  v51 := Tryd.zeroValue106
  i51 := by kernel_rfl
  t53 := Tryd.underlying175
  a53 := Tryd.isAgg175
  z53 := Tryd.sizeOf175
  v53 := Tryd.zeroValue175
  i53 := by kernel_rfl
  t54 := Tryd.underlying176
  a54 := Tryd.isAgg176
  z54 := Tryd.sizeOf176
  v54 := Tryd.zeroValue176
  i54 := by kernel_rfl
  t58 := Tryd.underlying180
  a58 := Tryd.isAgg180
  z58 := Tryd.sizeOf180
  v58 := Tryd.zeroValue180
  i58 := by kernel_rfl
  t60 := Tryd.underlying182
  a60 := Tryd.isAgg182
  z60 := Tryd.sizeOf182
  v60 := Tryd.zeroValue182
  i60 := by kernel_rfl
  t64 := Tryd.underlying185
  a64 := Tryd.isAgg185
  z64 := Tryd.sizeOf185
  v64 := Tryd.zeroValue185
  i64 := by kernel_rfl
  t66 := Tryd.underlying187
  a66 := Tryd.isAgg187
  z66 := Tryd.sizeOf187
  v66 := Tryd.zeroValue187
  i66 := by kernel_rfl
  t67 := Tryd.underlying188
  a67 := Tryd.isAgg188
  z67 := Tryd.sizeOf188
  v67 := Tryd.zeroValue188
  i67 := by kernel_rfl
  t75 := Tryd.underlying196
  a75 := Tryd.isAgg196
  z75 := Tryd.sizeOf196
  v75 := Tryd.zeroValue196
  i75 := by kernel_rfl
  t76 := Tryd.underlying197
  a76 := Tryd.isAgg197
  z76 := Tryd.sizeOf197
  v76 := Tryd.zeroValue197
  i76 := by kernel_rfl
  t77 := Tryd.underlying198
  a77 := Tryd.isAgg198
  z77 := Tryd.sizeOf198
  v77 := Tryd.zeroValue198
  i77 := by kernel_rfl
  t78 := Tryd.underlying199
  a78 := Tryd.isAgg199
  z78 := Tryd.sizeOf199
  v78 := Tryd.zeroValue199
  i78 := by kernel_rfl
  t79 := Tryd.underlying200
  a79 := Tryd.isAgg200
  z79 := Tryd.sizeOf200
  v79 := Tryd.zeroValue200
  i79 := by kernel_rfl
  t80 := Tryd.underlying201
  a80 := Tryd.isAgg201
  z80 := Tryd.sizeOf201
  v80 := Tryd.zeroValue201
  i80 := by kernel_rfl
  t82 := Tryd.underlying203
  a82 := Tryd.isAgg203
  z82 := Tryd.sizeOf203
  v82 := Tryd.zeroValue203
  i82 := by kernel_rfl
theorem tT : TagT Tryd.prog E := ⟨by kernel_rfl, by kernel_rfl, by kernel_rfl, by kernel_rfl, by kernel_rfl, by kernel_rfl⟩
theorem sE : SortE Tryd.prog E where
  mixed := by kernel_rfl
  row := by kernel_rfl
  oU32s := by kernel_rfl
  zU32s := by kernel_rfl
  oU32 := by kernel_rfl
  iu := by kernel_rfl
  L := ⟨sl6_ren, sl6, rfl⟩
  enters := Go.Proofs.enters_of Tryd.func131 (by kernel_rfl) rfl
  info := ⟨Tryd.t152, Tryd.t94, by kernel_rfl, by kernel_rfl, by kernel_rfl, by kernel_rfl, by kernel_rfl, by kernel_rfl, by kernel_rfl⟩
  kind := fun _ => by kernel_rfl
  sw2 := ⟨142, by kernel_rfl⟩
  sw6 := ⟨146, true, by kernel_rfl, fun args W => run_callFunc_extern Tryd.func146 (by kernel_rfl) (by kernel_rfl) (by kernel_rfl) (e := Extern.ReflectliteSwapper.swap true) (by kernel_rfl) args W⟩
  less := (tt Tryd.func132 (by kernel_rfl) (by kernel_rfl) (by kernel_rfl) (by decide))
theorem tg : TTexts Tryd.prog E := ⟨tT, sE, (tt Tryd.func111 (by kernel_rfl) (by kernel_rfl) (by kernel_rfl) (by decide)), by decide⟩
theorem tr : TagsR Tryd.prog E (fun _ => True) := tagsR tT sE.iu rt.int (fun _ => rt.cU (by decide)) (fun _ => rt.cS (by decide)) (fun _ => (tt Tryd.func129 (by kernel_rfl) (by kernel_rfl) (by kernel_rfl) (by decide))) (fun _ => (tt Tryd.func106 (by kernel_rfl) (by kernel_rfl) (by kernel_rfl) (by decide)))
theorem ew : EnvW Tryd.prog E (fun _ => True) := envWT kt (by kernel_rfl) tg
theorem ur : UuidR Tryd.prog E := uuidR rt.env rt.mixed (by kernel_rfl) (by kernel_rfl) (by kernel_rfl) (fun _ => rt.cS (by decide)) (fun _ => (tt Tryd.func105 (by kernel_rfl) (by kernel_rfl) (by kernel_rfl) (by decide)))
theorem ei : EnvI Tryd.prog E := ⟨by kernel_rfl, by kernel_rfl⟩
theorem er : EnvR Tryd.prog E (fun _ => True) := envR rt (by decide) ur tr
theorem rx : EnvRX Tryd.prog E := ⟨by kernel_rfl, by kernel_rfl, by kernel_rfl⟩
theorem lv : Text Tryd.prog E.lVersion 2 10 #[.tmp 4] (c_lVersion E) := (tt Tryd.func10 (by kernel_rfl) (by kernel_rfl) (by kernel_rfl) (by decide))
theorem sm : Text Tryd.prog E.sSame 2 26 #[.tmp 4] (c_sSame E) := (tt Tryd.func11 (by kernel_rfl) (by kernel_rfl) (by kernel_rfl) (by decide))
theorem i16k : intT Tryd.prog E.tI16 = some .i16 := by kernel_rfl
theorem ik : intT Tryd.prog E.tI = some .i64 := by kernel_rfl
theorem o16 : oneT Tryd.prog E.tI16 = true := by kernel_rfl
theorem ifE : ifaceT Tryd.prog E.tErr = true := by kernel_rfl
theorem lf : Tryd.prog.liftsFinal = false := by kernel_rfl
theorem me : Tryd.prog.mayEnter = true := by kernel_rfl
theorem lo : laidOutB Tryd.prog = true := by kernel_rfl
theorem own : ownKnob Tryd.prog.godebug = none := by kernel_rfl
end Go.Proofs.YtfgpkjcmhiclbaaDoor
