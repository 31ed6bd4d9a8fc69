/- The numbers of this translation; its functions of kbin have the texts that the contracts are about; its types are laid as they ask. -/
import Derived.Test.YtapmfbenmeigpaaDoorKb00
import Derived.Test.YtapmfbenmeigpaaDoorKb01
import Derived.Test.YtapmfbenmeigpaaDoorKb02
import Derived.Test.YtapmfbenmeigpaaDoorKb03
import Derived.Test.YtapmfbenmeigpaaDoorKb04
import Derived.Test.YtapmfbenmeigpaaDoorKb05
import Derived.Test.YtapmfbenmeigpaaDoorRows
set_option linter.unusedVariables false
namespace Go.Proofs.YtapmfbenmeigpaaDoor
open Go Go.Km
def E : Env := { tErr := 47, tI8 := 0, tI16 := 41, tI32 := 21, tI64 := 2, tU8 := 5, tU16 := 132, tW := 78, tU64 := 128, tO := 4, tF64 := 0, tI := 3, tStr := 9, tPStr := 0, tB := 22, tUuid := 91, tTags := 60, tPTags := 119, tRd := 110, tPRd := 116, rI8 := 0, rI16 := 95, rI32 := 96, rI64 := 0, rU16 := 0, rBool := 103, rF64 := 0, rUuid := 98, rStr := 82, rUStr := 80, rCStr := 81, rUCStr := 79, rNStr := 0, rUNStr := 0, rCNStr := 0, rUCNStr := 0, rBytes := 0, rCBytes := 0, rNBytes := 0, rCNBytes := 0, rLen := 75, rCLen := 74, rOk := 76, rComplete := 77, rTags := 83, wI8 := 0, wI16 := 66, wI32 := 67, wI64 := 0, wU16 := 99, wBool := 73, wF64 := 0, wUuid := 68, wStr := 54, wCStr := 53, wNStr := 0, wCNStr := 0, wBytes := 0, wCBytes := 0, wNBytes := 0, wCNBytes := 0, wLen := 61, wCLen := 60, wNLen := 52, wCNLen := 51, wUvarint := 55, tLen := 56, tEach := 57, tUint := 118, tFld := 55, tFlds := 35, tT := 32, tS := 29, tUnk := 84, tK := 30, tMsg := 37, wU32 := 100, wU64 := 0, uvLen := 84, len32 := 108, sHas := 87, sNull := 111, sWhole := 94, sThings := 112, sAt := 89, sUvar := 92, sFixed := 33, sWidth := 115, sCounted := 113, sValue := 114, sField := 88, sUsual := 91, sKnown := 90, sUnknown := 93, sPart := 63, sDefault := 0, sWrite := 34, sKept := 15, sSame := 11, lVersion := 10, tTagMap := 58, tU32s := 136, tFnTag := 121, tFnLess := 138, tAny := 20, gAll := 85, gEach1 := 86, gAll1 := 110, gSet := 107, sortSlice := 109, rUvar := 104, rSpan := 106, rU64 := 0, kUv := 118, kUs := 105, bU16 := 116, bU32 := 117, bU64 := 0, f64b := 0, f64f := 0, tBE := 145, tUvR := 148, vErr := 0, vBE := 1 }
theorem tt {Q : Program} {f : FuncId} {fn : Func} {np nt : Nat} {res : Array ResultVar} {c : Code} (h : Q.funcs[f]? = some fn) (hb : fn.body.map bare = some c) (hn : fn.ntmps = nt) (hr : fn.results = res) (hne : fn.name ≠ "runtime.NumGoroutine") : Text Q f np nt res c := ⟨fn, h, hb, hn, hr, hne⟩
theorem kt : KTexts Tryd.prog E where
  wBool := fun _ => (tt Tryd.func73 (by kernel_rfl) (by kernel_rfl) (by kernel_rfl) (by decide))
  wI8 := fun h => absurd rfl h
  wI16 := fun _ => (tt Tryd.func66 (by kernel_rfl) (by kernel_rfl) (by kernel_rfl) (by decide))
  wU16 := fun _ => (tt Tryd.func99 (by kernel_rfl) (by kernel_rfl) (by kernel_rfl) (by decide))
  wI32 := fun _ => (tt Tryd.func67 (by kernel_rfl) (by kernel_rfl) (by kernel_rfl) (by decide))
  wU32 := fun _ => (tt Tryd.func100 (by kernel_rfl) (by kernel_rfl) (by kernel_rfl) (by decide))
  wI64 := fun h => absurd rfl h
  wU64 := fun h => absurd rfl h
  wUuid := fun _ => (tt Tryd.func68 (by kernel_rfl) (by kernel_rfl) (by kernel_rfl) (by decide))
  wStr := fun _ => (tt Tryd.func54 (by kernel_rfl) (by kernel_rfl) (by kernel_rfl) (by decide))
  wCStr := fun _ => (tt Tryd.func53 (by kernel_rfl) (by kernel_rfl) (by kernel_rfl) (by decide))
  wNStr := fun h => absurd rfl h
  wCNStr := fun h => absurd rfl h
  wBytes := fun h => absurd rfl h
  wCBytes := fun h => absurd rfl h
  wNBytes := fun h => absurd rfl h
  wCNBytes := fun h => absurd rfl h
  wLen := fun _ => (tt Tryd.func61 (by kernel_rfl) (by kernel_rfl) (by kernel_rfl) (by decide))
  wCLen := fun _ => (tt Tryd.func60 (by kernel_rfl) (by kernel_rfl) (by kernel_rfl) (by decide))
  wNLen := fun _ => (tt Tryd.func52 (by kernel_rfl) (by kernel_rfl) (by kernel_rfl) (by decide))
  wCNLen := fun _ => (tt Tryd.func51 (by kernel_rfl) (by kernel_rfl) (by kernel_rfl) (by decide))
  uvLen := fun _ => (tt Tryd.func84 (by kernel_rfl) (by kernel_rfl) (by kernel_rfl) (by decide))
  len32 := fun _ => (tt Tryd.func108 (by kernel_rfl) (by kernel_rfl) (by kernel_rfl) (by decide))
  wUvarint := fun _ => (tt Tryd.func55 (by kernel_rfl) (by kernel_rfl) (by kernel_rfl) (by decide))
  tLen := fun _ => (tt Tryd.func56 (by kernel_rfl) (by kernel_rfl) (by kernel_rfl) (by decide))
  tEach := fun _ => (tt Tryd.func57 (by kernel_rfl) (by kernel_rfl) (by kernel_rfl) (by decide))
  gAll := fun _ => (tt Tryd.func85 (by kernel_rfl) (by kernel_rfl) (by kernel_rfl) (by decide))
theorem rt : RTexts Tryd.prog E where
  mixed := (by kernel_rfl)
  row := (by kernel_rfl)
  u8 := (by kernel_rfl)
  int := (by kernel_rfl)
  oBytes := (by kernel_rfl)
  oBool := (by kernel_rfl)
  oU8 := (by kernel_rfl)
  f0 := (by kernel_rfl)
  f1 := (by kernel_rfl)
  i32 := (by kernel_rfl)
  oE := (by kernel_rfl)
  rOk := (tt Tryd.func76 (by kernel_rfl) (by kernel_rfl) (by kernel_rfl) (by decide))
  rComplete := (tt Tryd.func77 (by kernel_rfl) (by kernel_rfl) (by kernel_rfl) (by decide))
  rI8 := fun h => absurd rfl h
  rBool := fun _ => (tt Tryd.func103 (by kernel_rfl) (by kernel_rfl) (by kernel_rfl) (by decide))
  rI16 := fun _ => ⟨(by kernel_rfl), (by kernel_rfl), (by kernel_rfl), (tt Tryd.func116 (by kernel_rfl) (by kernel_rfl) (by kernel_rfl) (by decide)), (tt Tryd.func95 (by kernel_rfl) (by kernel_rfl) (by kernel_rfl) (by decide))⟩
  rU16 := fun h => absurd rfl h
  rI32 := fun _ => ⟨(by kernel_rfl), (by kernel_rfl), (tt Tryd.func117 (by kernel_rfl) (by kernel_rfl) (by kernel_rfl) (by decide)), (tt Tryd.func96 (by kernel_rfl) (by kernel_rfl) (by kernel_rfl) (by decide))⟩
  rI64 := fun h => absurd rfl h
  rUvar := fun _ => ⟨(by kernel_rfl), (tt Tryd.func118 (by kernel_rfl) (by kernel_rfl) (by kernel_rfl) (by decide)), (tt Tryd.func104 (by kernel_rfl) (by kernel_rfl) (by kernel_rfl) (by decide))⟩
  rSpan := fun _ => (tt Tryd.func106 (by kernel_rfl) (by kernel_rfl) (by kernel_rfl) (by decide))
  rStr := fun _ => ⟨(by kernel_rfl), (by decide), (by decide), (tt Tryd.func82 (by kernel_rfl) (by kernel_rfl) (by kernel_rfl) (by decide))⟩
  rCStr := fun _ => ⟨(by kernel_rfl), (by decide), (by decide), (tt Tryd.func81 (by kernel_rfl) (by kernel_rfl) (by kernel_rfl) (by decide))⟩
  rNStr := fun h => absurd rfl h
  rCNStr := fun h => absurd rfl h
  rBytes := fun h => absurd rfl h
  rCBytes := fun h => absurd rfl h
  rNBytes := fun h => absurd rfl h
  rCNBytes := fun h => absurd rfl h
  rLen := fun _ => ⟨(by decide), (tt Tryd.func75 (by kernel_rfl) (by kernel_rfl) (by kernel_rfl) (by decide))⟩
  rCLen := fun _ => ⟨(by decide), (tt Tryd.func74 (by kernel_rfl) (by kernel_rfl) (by kernel_rfl) (by decide))⟩
def sl6_ren : Go.Shelf.Ren := ⟨fun | 6 => 109 | 10 => 119 | 11 => 120 | 12 => 121 | 13 => 122 | 14 => 123 | 24 => 108 | 25 => 133 | 26 => 134 | 27 => 135 | 28 => 136 | 29 => 137 | 30 => 138 | 31 => 139 | 32 => 140 | 33 => 141 | 34 => 142 | 35 => 143 | 36 => 144 | 37 => 145 | 38 => 146 | 39 => 147 | n => n, fun | 20 => 20 | 26 => 138 | 35 => 153 | 0 => 0 | 37 => 155 | 3 => 3 | 41 => 118 | 44 => 160 | 49 => 78 | 51 => 128 | 4 => 4 | 54 => 167 | 53 => 166 | 58 => 171 | 5 => 5 | 9 => 9 | 60 => 173 | 64 => 177 | 66 => 179 | 67 => 180 | 17 => 17 | 32 => 150 | 33 => 151 | 82 => 195 | 12 => 12 | 75 => 188 | 76 => 189 | 77 => 190 | 78 => 191 | 79 => 192 | 80 => 193 | n => n, fun | n => n⟩
theorem sl6 : Go.Proofs.LaysGg.n6 Tryd.prog sl6_ren where
  mixed := by kernel_rfl
  f6 := Tryd.func109.trans (congrArg some (by kernel_rfl))
  f10 := Tryd.func119.trans (congrArg some (by kernel_rfl))
  f11 := Tryd.func120.trans (congrArg some (by kernel_rfl))
  f12 := Tryd.func121.trans (congrArg some (by kernel_rfl))
  f13 := Tryd.func122.trans (congrArg some (by kernel_rfl))
  f14 := Tryd.func123.trans (congrArg some (by kernel_rfl))
  f24 := Tryd.func108.trans (congrArg some (by kernel_rfl))
  f25 := Tryd.func133.trans (congrArg some (by kernel_rfl))
  f26 := Tryd.func134.trans (congrArg some (by kernel_rfl))
  f27 := Tryd.func135.trans (congrArg some (by kernel_rfl))
  f28 := Tryd.func136.trans (congrArg some (by kernel_rfl))
  f29 := Tryd.func137.trans (congrArg some (by kernel_rfl))
  f30 := Tryd.func138.trans (congrArg some (by kernel_rfl))
  f31 := Tryd.func139.trans (congrArg some (by kernel_rfl))
  f32 := Tryd.func140.trans (congrArg some (by kernel_rfl))
  f33 := Tryd.func141.trans (congrArg some (by kernel_rfl))
  f34 := Tryd.func142.trans (congrArg some (by kernel_rfl))
  f35 := Tryd.func143.trans (congrArg some (by kernel_rfl))
  f36 := Tryd.func144.trans (congrArg some (by kernel_rfl))
  f37 := Tryd.func145.trans (congrArg some (by kernel_rfl))
  f38 := Tryd.func146.trans (congrArg some (by kernel_rfl))
  f39 := Tryd.func147.trans (congrArg some (by kernel_rfl))
  t0 := Tryd.underlying0
  a0 := Tryd.isAgg0
  z0 := Tryd.sizeOf0
  v0 := Tryd.zeroValue0
  i0 := by kernel_rfl
  t3 := Tryd.underlying3
  a3 := Tryd.isAgg3
  z3 := Tryd.sizeOf3
  v3 := Tryd.zeroValue3
  i3 := by kernel_rfl
  t4 := Tryd.underlying4
  a4 := Tryd.isAgg4
  z4 := Tryd.sizeOf4
  v4 := Tryd.zeroValue4
  i4 := by kernel_rfl
  t5 := Tryd.underlying5
  a5 := Tryd.isAgg5
  z5 := Tryd.sizeOf5
  v5 := Tryd.zeroValue5
  i5 := by kernel_rfl
  t9 := Tryd.underlying9
  a9 := Tryd.isAgg9
  z9 := Tryd.sizeOf9
  v9 := Tryd.zeroValue9
  i9 := by kernel_rfl
  t12 := Tryd.underlying12
  a12 := Tryd.isAgg12
  z12 := Tryd.sizeOf12
  v12 := Tryd.zeroValue12
  i12 := by kernel_rfl
  t17 := Tryd.underlying17
  a17 := Tryd.isAgg17
  z17 := Tryd.sizeOf17
  v17 := Tryd.zeroValue17
  i17 := by kernel_rfl
  t20 := Tryd.underlying20
  a20 := Tryd.isAgg20
  z20 := Tryd.sizeOf20
  v20 := Tryd.zeroValue20
  i20 := by kernel_rfl
  t26 := Tryd.underlying138
  a26 := Tryd.isAgg138
  z26 := Tryd.sizeOf138
  v26 := Tryd.zeroValue138
  i26 := by kernel_rfl
  t32 := Tryd.underlying150
  a32 := Tryd.isAgg150
  z32 := Tryd.sizeOf150
  v32 := Tryd.zeroValue150
  i32 := by kernel_rfl
  t33 := Tryd.underlying151
  a33 := Tryd.isAgg151
  z33 := Tryd.sizeOf151
  v33 := Tryd.zeroValue151
  i33 := by kernel_rfl
  t35 := Tryd.underlying153
  a35 := Tryd.isAgg153
  z35 := Tryd.sizeOf153
  v35 := Tryd.zeroValue153
  i35 := by kernel_rfl
  t37 := Tryd.underlying155
  a37 := Tryd.isAgg155
  z37 := Tryd.sizeOf155
  v37 := Tryd.zeroValue155
  i37 := by kernel_rfl
  t41 := Tryd.underlying118
  a41 := Tryd.isAgg118
  z41 := Tryd.sizeOf118
  v41 := Tryd.zeroValue118
  i41 := by kernel_rfl
  t44 := Tryd.underlying160
  a44 := Tryd.isAgg160
  z44 := Tryd.sizeOf160
  v44 := Tryd.zeroValue160
  i44 := by kernel_rfl
  t49 := Tryd.underlying78
  a49 := Tryd.isAgg78
  z49 := Tryd.sizeOf78
  v49 := Tryd.zeroValue78
  i49 := by kernel_rfl
  t51 := Tryd.underlying128
  a51 := Tryd.isAgg128
  z51 := Tryd.sizeOf128
  v51 := Tryd.zeroValue128
  i51 := by kernel_rfl
  t53 := Tryd.underlying166
  a53 := Tryd.isAgg166
  z53 := Tryd.sizeOf166
  v53 := Tryd.zeroValue166
  i53 := by kernel_rfl
  t54 := Tryd.underlying167
  a54 := Tryd.isAgg167
  z54 := Tryd.sizeOf167
  v54 := Tryd.zeroValue167
  i54 := by kernel_rfl
  t58 := Tryd.underlying171
  a58 := Tryd.isAgg171
  z58 := Tryd.sizeOf171
  v58 := Tryd.zeroValue171
  i58 := by kernel_rfl
  t60 := Tryd.underlying173
  a60 := Tryd.isAgg173
  z60 := Tryd.sizeOf173
  v60 := Tryd.zeroValue173
  i60 := by kernel_rfl
  t64 := Tryd.underlying177
  a64 := Tryd.isAgg177
  z64 := Tryd.sizeOf177
  v64 := Tryd.zeroValue177
  i64 := by kernel_rfl
  t66 := Tryd.underlying179
  a66 := Tryd.isAgg179
  z66 := Tryd.sizeOf179
  v66 := Tryd.zeroValue179
  i66 := by kernel_rfl
  t67 := Tryd.underlying180
  a67 := Tryd.isAgg180
  z67 := Tryd.sizeOf180
  v67 := Tryd.zeroValue180
  i67 := by kernel_rfl
  t75 := Tryd.underlying188
  a75 := Tryd.isAgg188
  z75 := Tryd.sizeOf188
  v75 := Tryd.zeroValue188
  i75 := by kernel_rfl
  t76 := Tryd.underlying189
  a76 := Tryd.isAgg189
  z76 := Tryd.sizeOf189
  v76 := Tryd.zeroValue189
  i76 := by kernel_rfl
  t77 := Tryd.underlying190
  a77 := Tryd.isAgg190
  z77 := Tryd.sizeOf190
  v77 := Tryd.zeroValue190
  i77 := by kernel_rfl
  t78 := Tryd.underlying191
  a78 := Tryd.isAgg191
  z78 := Tryd.sizeOf191
  v78 := Tryd.zeroValue191
  i78 := by kernel_rfl
  t79 := Tryd.underlying192
  a79 := Tryd.isAgg192
  z79 := Tryd.sizeOf192
  v79 := Tryd.zeroValue192
  i79 := by kernel_rfl
  t80 := Tryd.underlying193
  a80 := Tryd.isAgg193
  z80 := Tryd.sizeOf193
  v80 := Tryd.zeroValue193
  i80 := by kernel_rfl
  t82 := Tryd.underlying195
  a82 := Tryd.isAgg195
  z82 := Tryd.sizeOf195
  v82 := Tryd.zeroValue195
  i82 := by kernel_rfl
theorem tT : TagT Tryd.prog E := ⟨by kernel_rfl, by kernel_rfl, by kernel_rfl, by kernel_rfl, by kernel_rfl, by kernel_rfl⟩
theorem sE : SortE Tryd.prog E where
  mixed := by kernel_rfl
  row := by kernel_rfl
  oU32s := by kernel_rfl
  zU32s := by kernel_rfl
  oU32 := by kernel_rfl
  iu := by kernel_rfl
  L := ⟨sl6_ren, sl6, rfl⟩
  enters := Go.Proofs.enters_of Tryd.func109 (by kernel_rfl) rfl
  info := ⟨Tryd.t136, Tryd.t78, by kernel_rfl, by kernel_rfl, by kernel_rfl, by kernel_rfl, by kernel_rfl, by kernel_rfl, by kernel_rfl⟩
  kind := fun _ => by kernel_rfl
  sw2 := ⟨125, by kernel_rfl⟩
  sw6 := ⟨129, true, by kernel_rfl, fun args W => run_callFunc_extern Tryd.func129 (by kernel_rfl) (by kernel_rfl) (by kernel_rfl) (e := Extern.ReflectliteSwapper.swap true) (by kernel_rfl) args W⟩
  less := (tt Tryd.func110 (by kernel_rfl) (by kernel_rfl) (by kernel_rfl) (by decide))
theorem tg : TTexts Tryd.prog E := ⟨tT, sE, (tt Tryd.func86 (by kernel_rfl) (by kernel_rfl) (by kernel_rfl) (by decide)), by decide⟩
theorem tr : TagsR Tryd.prog E (fun _ => True) := tagsR tT sE.iu rt.int (fun _ => rt.cU (by decide)) (fun _ => rt.cS (by decide)) (fun _ => (tt Tryd.func107 (by kernel_rfl) (by kernel_rfl) (by kernel_rfl) (by decide))) (fun _ => (tt Tryd.func83 (by kernel_rfl) (by kernel_rfl) (by kernel_rfl) (by decide)))
theorem ew : EnvW Tryd.prog E (fun _ => True) := envWT kt (by kernel_rfl) tg
theorem ur : UuidR Tryd.prog E := uuidR rt.env rt.mixed (by kernel_rfl) (by kernel_rfl) (by kernel_rfl) (fun _ => rt.cS (by decide)) (fun _ => (tt Tryd.func98 (by kernel_rfl) (by kernel_rfl) (by kernel_rfl) (by decide)))
theorem ei : EnvI Tryd.prog E := ⟨by kernel_rfl, by kernel_rfl⟩
theorem er : EnvR Tryd.prog E (fun _ => True) := envR rt (by decide) ur tr
theorem rx : EnvRX Tryd.prog E := ⟨by kernel_rfl, by kernel_rfl, by kernel_rfl⟩
theorem lv : Text Tryd.prog E.lVersion 2 10 #[.tmp 4] (c_lVersion E) := (tt Tryd.func10 (by kernel_rfl) (by kernel_rfl) (by kernel_rfl) (by decide))
theorem sm : Text Tryd.prog E.sSame 2 26 #[.tmp 4] (c_sSame E) := (tt Tryd.func11 (by kernel_rfl) (by kernel_rfl) (by kernel_rfl) (by decide))
theorem i16k : intT Tryd.prog E.tI16 = some .i16 := by kernel_rfl
theorem ik : intT Tryd.prog E.tI = some .i64 := by kernel_rfl
theorem o16 : oneT Tryd.prog E.tI16 = true := by kernel_rfl
theorem ifE : ifaceT Tryd.prog E.tErr = true := by kernel_rfl
theorem lf : Tryd.prog.liftsFinal = false := by kernel_rfl
theorem me : Tryd.prog.mayEnter = true := by kernel_rfl
theorem lo : laidOutB Tryd.prog = true := by kernel_rfl
theorem own : ownKnob Tryd.prog.godebug = none := by kernel_rfl
end Go.Proofs.YtapmfbenmeigpaaDoor
