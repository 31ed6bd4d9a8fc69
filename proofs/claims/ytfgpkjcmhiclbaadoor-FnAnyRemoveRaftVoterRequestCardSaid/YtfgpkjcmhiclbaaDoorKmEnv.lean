/- The numbers of this translation; its functions of kbin have the texts that the contracts are about; its types are laid as they ask. -/
import Derived.Test.YtfgpkjcmhiclbaaDoorKb00
import Derived.Test.YtfgpkjcmhiclbaaDoorKb01
import Derived.Test.YtfgpkjcmhiclbaaDoorKb02
import Derived.Test.YtfgpkjcmhiclbaaDoorKb03
import Derived.Test.YtfgpkjcmhiclbaaDoorKb04
import Derived.Test.YtfgpkjcmhiclbaaDoorKb05
import Derived.Test.YtfgpkjcmhiclbaaDoorRows
set_option linter.unusedVariables false
namespace Go.Proofs.YtfgpkjcmhiclbaaDoor
open Go Go.Km
def E : Env := { tErr := 47, tI8 := 110, tI16 := 41, tI32 := 21, tI64 := 2, tU8 := 5, tU16 := 33, tW := 96, tU64 := 108, tO := 4, tF64 := 0, tI := 3, tStr := 9, tPStr := 74, tB := 22, tUuid := 90, tTags := 67, tPTags := 136, tRd := 124, tPRd := 132, rI8 := 129, rI16 := 103, rI32 := 97, rI64 := 132, rU16 := 0, rBool := 128, rF64 := 0, rUuid := 115, rStr := 111, rUStr := 109, rCStr := 110, rUCStr := 108, rNStr := 107, rUNStr := 106, rCNStr := 105, rUCNStr := 104, rBytes := 131, rCBytes := 130, rNBytes := 0, rCNBytes := 0, rLen := 99, rCLen := 98, rOk := 100, rComplete := 101, rTags := 116, wI8 := 87, wI16 := 64, wI32 := 61, wI64 := 94, wU16 := 118, wBool := 86, wF64 := 0, wUuid := 69, wStr := 68, wCStr := 67, wNStr := 66, wCNStr := 65, wBytes := 93, wCBytes := 92, wNBytes := 0, wCNBytes := 0, wLen := 63, wCLen := 62, wNLen := 0, wCNLen := 0, wUvarint := 70, tLen := 71, tEach := 72, tUint := 135, tFld := 55, tFlds := 36, tT := 32, tS := 29, tUnk := 98, tK := 30, tMsg := 38, wU32 := 117, wU64 := 133, uvLen := 119, len32 := 140, sHas := 75, sNull := 122, sWhole := 82, sThings := 123, sAt := 77, sUvar := 80, sFixed := 126, sWidth := 127, sCounted := 124, sValue := 125, sField := 76, sUsual := 79, sKnown := 78, sUnknown := 81, sPart := 35, sDefault := 0, sWrite := 15, sKept := 0, sSame := 12, lVersion := 11, tTagMap := 65, tU32s := 156, tFnTag := 138, tFnLess := 158, tAny := 20, gAll := 120, gEach1 := 121, gAll1 := 142, gSet := 139, sortSlice := 141, rUvar := 135, rSpan := 138, rU64 := 143, kUv := 144, kUs := 137, bU16 := 136, bU32 := 134, bU64 := 150, f64b := 0, f64f := 0, tBE := 150, tUvR := 160, vErr := 1, vBE := 0 }
theorem tt {Q : Program} {f : FuncId} {fn : Func} {np nt : Nat} {res : Array ResultVar} {c : Code} (h : Q.funcs[f]? = some fn) (hb : fn.body.map bare = some c) (hn : fn.ntmps = nt) (hr : fn.results = res) (hne : fn.name ≠ "runtime.NumGoroutine") : Text Q f np nt res c := ⟨fn, h, hb, hn, hr, hne⟩
theorem kt : KTexts Tryd.prog E where
  wBool := fun _ => (tt Tryd.func86 (by kernel_rfl) (by kernel_rfl) (by kernel_rfl) (by decide))
  wI8 := fun _ => (tt Tryd.func87 (by kernel_rfl) (by kernel_rfl) (by kernel_rfl) (by decide))
  wI16 := fun _ => (tt Tryd.func64 (by kernel_rfl) (by kernel_rfl) (by kernel_rfl) (by decide))
  wU16 := fun _ => (tt Tryd.func118 (by kernel_rfl) (by kernel_rfl) (by kernel_rfl) (by decide))
  wI32 := fun _ => (tt Tryd.func61 (by kernel_rfl) (by kernel_rfl) (by kernel_rfl) (by decide))
  wU32 := fun _ => (tt Tryd.func117 (by kernel_rfl) (by kernel_rfl) (by kernel_rfl) (by decide))
  wI64 := fun _ => (tt Tryd.func94 (by kernel_rfl) (by kernel_rfl) (by kernel_rfl) (by decide))
  wU64 := fun _ => (tt Tryd.func133 (by kernel_rfl) (by kernel_rfl) (by kernel_rfl) (by decide))
  wUuid := fun _ => (tt Tryd.func69 (by kernel_rfl) (by kernel_rfl) (by kernel_rfl) (by decide))
  wStr := fun _ => (tt Tryd.func68 (by kernel_rfl) (by kernel_rfl) (by kernel_rfl) (by decide))
  wCStr := fun _ => (tt Tryd.func67 (by kernel_rfl) (by kernel_rfl) (by kernel_rfl) (by decide))
  wNStr := fun _ => (tt Tryd.func66 (by kernel_rfl) (by kernel_rfl) (by kernel_rfl) (by decide))
  wCNStr := fun _ => (tt Tryd.func65 (by kernel_rfl) (by kernel_rfl) (by kernel_rfl) (by decide))
  wBytes := fun _ => (tt Tryd.func93 (by kernel_rfl) (by kernel_rfl) (by kernel_rfl) (by decide))
  wCBytes := fun _ => (tt Tryd.func92 (by kernel_rfl) (by kernel_rfl) (by kernel_rfl) (by decide))
  wNBytes := fun h => absurd rfl h
  wCNBytes := fun h => absurd rfl h
  wLen := fun _ => (tt Tryd.func63 (by kernel_rfl) (by kernel_rfl) (by kernel_rfl) (by decide))
  wCLen := fun _ => (tt Tryd.func62 (by kernel_rfl) (by kernel_rfl) (by kernel_rfl) (by decide))
  wNLen := fun h => absurd rfl h
  wCNLen := fun h => absurd rfl h
  uvLen := fun _ => (tt Tryd.func119 (by kernel_rfl) (by kernel_rfl) (by kernel_rfl) (by decide))
  len32 := fun _ => (tt Tryd.func140 (by kernel_rfl) (by kernel_rfl) (by kernel_rfl) (by decide))
  wUvarint := fun _ => (tt Tryd.func70 (by kernel_rfl) (by kernel_rfl) (by kernel_rfl) (by decide))
  tLen := fun _ => (tt Tryd.func71 (by kernel_rfl) (by kernel_rfl) (by kernel_rfl) (by decide))
  tEach := fun _ => (tt Tryd.func72 (by kernel_rfl) (by kernel_rfl) (by kernel_rfl) (by decide))
  gAll := fun _ => (tt Tryd.func120 (by kernel_rfl) (by kernel_rfl) (by kernel_rfl) (by decide))
theorem rt : RTexts Tryd.prog E where
  mixed := (by kernel_rfl)
  row := (by kernel_rfl)
  u8 := (by kernel_rfl)
  int := (by kernel_rfl)
  oBytes := (by kernel_rfl)
  oBool := (by kernel_rfl)
  oU8 := (by kernel_rfl)
  f0 := (by kernel_rfl)
  f1 := (by kernel_rfl)
  i32 := (by kernel_rfl)
  oE := (by kernel_rfl)
  rOk := (tt Tryd.func100 (by kernel_rfl) (by kernel_rfl) (by kernel_rfl) (by decide))
  rComplete := (tt Tryd.func101 (by kernel_rfl) (by kernel_rfl) (by kernel_rfl) (by decide))
  rI8 := fun _ => ⟨(by kernel_rfl), (tt Tryd.func129 (by kernel_rfl) (by kernel_rfl) (by kernel_rfl) (by decide))⟩
  rBool := fun _ => (tt Tryd.func128 (by kernel_rfl) (by kernel_rfl) (by kernel_rfl) (by decide))
  rI16 := fun _ => ⟨(by kernel_rfl), (by kernel_rfl), (by kernel_rfl), (tt Tryd.func136 (by kernel_rfl) (by kernel_rfl) (by kernel_rfl) (by decide)), (tt Tryd.func103 (by kernel_rfl) (by kernel_rfl) (by kernel_rfl) (by decide))⟩
  rU16 := fun h => absurd rfl h
  rI32 := fun _ => ⟨(by kernel_rfl), (by kernel_rfl), (tt Tryd.func134 (by kernel_rfl) (by kernel_rfl) (by kernel_rfl) (by decide)), (tt Tryd.func97 (by kernel_rfl) (by kernel_rfl) (by kernel_rfl) (by decide))⟩
  rI64 := fun _ => ⟨(by kernel_rfl), (by kernel_rfl), (by kernel_rfl), (tt Tryd.func150 (by kernel_rfl) (by kernel_rfl) (by kernel_rfl) (by decide)), (tt Tryd.func143 (by kernel_rfl) (by kernel_rfl) (by kernel_rfl) (by decide)), (tt Tryd.func132 (by kernel_rfl) (by kernel_rfl) (by kernel_rfl) (by decide))⟩
  rUvar := fun _ => ⟨(by kernel_rfl), (tt Tryd.func144 (by kernel_rfl) (by kernel_rfl) (by kernel_rfl) (by decide)), (tt Tryd.func135 (by kernel_rfl) (by kernel_rfl) (by kernel_rfl) (by decide))⟩
  rSpan := fun _ => (tt Tryd.func138 (by kernel_rfl) (by kernel_rfl) (by kernel_rfl) (by decide))
  rStr := fun _ => ⟨(by kernel_rfl), (by decide), (by decide), (tt Tryd.func111 (by kernel_rfl) (by kernel_rfl) (by kernel_rfl) (by decide))⟩
  rCStr := fun _ => ⟨(by kernel_rfl), (by decide), (by decide), (tt Tryd.func110 (by kernel_rfl) (by kernel_rfl) (by kernel_rfl) (by decide))⟩
  rNStr := fun _ => ⟨(by kernel_rfl), (by kernel_rfl), (by kernel_rfl), (by decide), (by decide), (tt Tryd.func107 (by kernel_rfl) (by kernel_rfl) (by kernel_rfl) (by decide))⟩
  rCNStr := fun _ => ⟨(by kernel_rfl), (by kernel_rfl), (by kernel_rfl), (by decide), (by decide), (tt Tryd.func105 (by kernel_rfl) (by kernel_rfl) (by kernel_rfl) (by decide))⟩
  rBytes := fun _ => ⟨(by decide), (by decide), (tt Tryd.func131 (by kernel_rfl) (by kernel_rfl) (by kernel_rfl) (by decide))⟩
  rCBytes := fun _ => ⟨(by decide), (by decide), (tt Tryd.func130 (by kernel_rfl) (by kernel_rfl) (by kernel_rfl) (by decide))⟩
  rNBytes := fun h => absurd rfl h
  rCNBytes := fun h => absurd rfl h
  rLen := fun _ => ⟨(by decide), (tt Tryd.func99 (by kernel_rfl) (by kernel_rfl) (by kernel_rfl) (by decide))⟩
  rCLen := fun _ => ⟨(by decide), (tt Tryd.func98 (by kernel_rfl) (by kernel_rfl) (by kernel_rfl) (by decide))⟩
def sl6_ren : Go.Shelf.Ren := ⟨fun | 6 => 141 | 10 => 145 | 11 => 146 | 12 => 147 | 13 => 148 | 14 => 149 | 24 => 140 | 25 => 160 | 26 => 161 | 27 => 162 | 28 => 163 | 29 => 164 | 30 => 165 | 31 => 166 | 32 => 167 | 33 => 168 | 34 => 169 | 35 => 170 | 36 => 171 | 37 => 172 | 38 => 173 | 39 => 174 | n => n, fun | 20 => 20 | 26 => 158 | 35 => 165 | 0 => 0 | 37 => 167 | 3 => 3 | 41 => 135 | 44 => 172 | 49 => 96 | 51 => 108 | 4 => 4 | 54 => 180 | 53 => 179 | 58 => 184 | 5 => 5 | 9 => 9 | 60 => 186 | 64 => 189 | 66 => 191 | 67 => 192 | 17 => 17 | 32 => 162 | 33 => 163 | 82 => 207 | 12 => 12 | 75 => 200 | 76 => 201 | 77 => 202 | 78 => 203 | 79 => 204 | 80 => 205 | n => n, fun | n => n⟩
theorem sl6 : Go.Proofs.LaysGg.n6 Tryd.prog sl6_ren where
  mixed := by kernel_rfl
  f6 := Tryd.func141.trans (congrArg some (by kernel_rfl))
  f10 := Tryd.func145.trans (congrArg some (by kernel_rfl))
  f11 := Tryd.func146.trans (congrArg some (by kernel_rfl))
  f12 := Tryd.func147.trans (congrArg some (by kernel_rfl))
  f13 := Tryd.func148.trans (congrArg some (by kernel_rfl))
  f14 := Tryd.func149.trans (congrArg some (by kernel_rfl))
  f24 := Tryd.func140.trans (congrArg some (by kernel_rfl))
  f25 := Tryd.func160.trans (congrArg some (by kernel_rfl))
  f26 := Tryd.func161.trans (congrArg some (by kernel_rfl))
  f27 := Tryd.func162.trans (congrArg some (by kernel_rfl))
  f28 := Tryd.func163.trans (congrArg some (by kernel_rfl))
  f29 := Tryd.func164.trans (congrArg some (by kernel_rfl))
  f30 := Tryd.func165.trans (congrArg some (by kernel_rfl))
  f31 := Tryd.func166.trans (congrArg some (by kernel_rfl))
  f32 := Tryd.func167.trans (congrArg some (by kernel_rfl))
  f33 := Tryd.func168.trans (congrArg some (by kernel_rfl))
  f34 := Tryd.func169.trans (congrArg some (by kernel_rfl))
  f35 := Tryd.func170.trans (congrArg some (by kernel_rfl))
  f36 := Tryd.func171.trans (congrArg some (by kernel_rfl))
  f37 := Tryd.func172.trans (congrArg some (by kernel_rfl))
  f38 := Tryd.func173.trans (congrArg some (by kernel_rfl))
  f39 := Tryd.func174.trans (congrArg some (by kernel_rfl))
  t0 := Tryd.underlying0
  a0 := Tryd.isAgg0
  z0 := Tryd.sizeOf0
  v0 := Tryd.zeroValue0
  i0 := by kernel_rfl
  t3 := Tryd.underlying3
  a3 := Tryd.isAgg3
  z3 := Tryd.sizeOf3
  v3 := Tryd.zeroValue3
  i3 := by kernel_rfl
  t4 := Tryd.underlying4
  a4 := Tryd.isAgg4
  z4 := Tryd.sizeOf4
  v4 := Tryd.zeroValue4
  i4 := by kernel_rfl
  t5 := Tryd.underlying5
  a5 := Tryd.isAgg5
  z5 := Tryd.sizeOf5
  v5 := Tryd.zeroValue5
  i5 := by kernel_rfl
  t9 := Tryd.underlying9
  a9 := Tryd.isAgg9
  z9 := Tryd.sizeOf9
  v9 := Tryd.zeroValue9
  i9 := by kernel_rfl
  t12 := Tryd.underlying12
  a12 := Tryd.isAgg12
  z12 := Tryd.sizeOf12
  v12 := Tryd.zeroValue12
  i12 := by kernel_rfl
  t17 := Tryd.underlying17
  a17 := Tryd.isAgg17
  z17 := Tryd.sizeOf17
  v17 := Tryd.zeroValue17
  i17 := by kernel_rfl
  t20 := Tryd.underlying20
  a20 := Tryd.isAgg20
  z20 := Tryd.sizeOf20
  v20 := Tryd.zeroValue20
  i20 := by kernel_rfl
  t26 := Tryd.underlying158
  a26 := Tryd.isAgg158
  z26 := Tryd.sizeOf158
  v26 := Tryd.zeroValue158
  i26 := by kernel_rfl
  t32 := Tryd.underlying162
  a32 := Tryd.isAgg162
  z32 := Tryd.sizeOf162
  v32 := Tryd.zeroValue162
  i32 := by kernel_rfl
  t33 := Tryd.underlying163
  a33 := Tryd.isAgg163
  z33 := Tryd.sizeOf163
  v33 := Tryd.zeroValue163
  i33 := by kernel_rfl
  t35 := Tryd.underlying165
  a35 := Tryd.isAgg165
  z35 := Tryd.sizeOf165
  v35 := Tryd.zeroValue165
  i35 := by kernel_rfl
  t37 := Tryd.underlying167
  a37 := Tryd.isAgg167
  z37 := Tryd.sizeOf167
  v37 := Tryd.zeroValue167
  i37 := by kernel_rfl
  t41 := Tryd.underlying135
  a41 := Tryd.isAgg135
  z41 := Tryd.sizeOf135
  v41 := Tryd.zeroValue135
  i41 := by kernel_rfl
  t44 := Tryd.underlying172
  a44 := Tryd.isAgg172
  z44 := Tryd.sizeOf172
  v44 := Tryd.zeroValue172
  i44 := by kernel_rfl
  t49 := Tryd.underlying96
  a49 := Tryd.isAgg96
  z49 := Tryd.sizeOf96
  v49 := Tryd.zeroValue96
  i49 := by kernel_rfl
  t51 := Tryd.underlying108
  a51 := Tryd.isAgg108
  z51 := Tryd.sizeOf108
  v51 := Tryd.zeroValue108
  i51 := by kernel_rfl
  t53 := Tryd.underlying179
  a53 := Tryd.isAgg179
  z53 := Tryd.sizeOf179
  v53 := Tryd.zeroValue179
  i53 := by kernel_rfl
  t54 := Tryd.underlying180
  a54 := Tryd.isAgg180
  z54 := Tryd.sizeOf180
  v54 := Tryd.zeroValue180
  i54 := by kernel_rfl
  t58 := Tryd.underlying184
  a58 := Tryd.isAgg184
  z58 := Tryd.sizeOf184
  v58 := Tryd.zeroValue184
  i58 := by kernel_rfl
  t60 := Tryd.underlying186
  a60 := Tryd.isAgg186
  z60 := Tryd.sizeOf186
  v60 := Tryd.zeroValue186
  i60 := by kernel_rfl
  t64 := Tryd.underlying189
  a64 := Tryd.isAgg189
  z64 := Tryd.sizeOf189
  v64 := Tryd.zeroValue189
  i64 := by kernel_rfl
  t66 := Tryd.underlying191
  a66 := Tryd.isAgg191
  z66 := Tryd.sizeOf191
  v66 := Tryd.zeroValue191
  i66 := by kernel_rfl
  t67 := Tryd.underlying192
  a67 := Tryd.isAgg192
  z67 := Tryd.sizeOf192
  v67 := Tryd.zeroValue192
  i67 := by kernel_rfl
  t75 := Tryd.underlying200
  a75 := Tryd.isAgg200
  z75 := Tryd.sizeOf200
  v75 := Tryd.zeroValue200
  i75 := by kernel_rfl
  t76 := Tryd.underlying201
  a76 := Tryd.isAgg201
  z76 := Tryd.sizeOf201
  v76 := Tryd.zeroValue201
  i76 := by kernel_rfl
  t77 := Tryd.underlying202
  a77 := Tryd.isAgg202
  z77 := Tryd.sizeOf202
  v77 := Tryd.zeroValue202
  i77 := by kernel_rfl
  t78 := Tryd.underlying203
  a78 := Tryd.isAgg203
  z78 := Tryd.sizeOf203
  v78 := Tryd.zeroValue203
  i78 := by kernel_rfl
  t79 := Tryd.underlying204
  a79 := Tryd.isAgg204
  z79 := Tryd.sizeOf204
  v79 := Tryd.zeroValue204
  i79 := by kernel_rfl
  t80 := Tryd.underlying205
  a80 := Tryd.isAgg205
  z80 := Tryd.sizeOf205
  v80 := Tryd.zeroValue205
  i80 := by kernel_rfl
  t82 := Tryd.underlying207
  a82 := Tryd.isAgg207
  z82 := Tryd.sizeOf207
  v82 := Tryd.zeroValue207
  i82 := by kernel_rfl
theorem tT : TagT Tryd.prog E := ⟨by kernel_rfl, by kernel_rfl, by kernel_rfl, by kernel_rfl, by kernel_rfl, by kernel_rfl⟩
theorem sE : SortE Tryd.prog E where
  mixed := by kernel_rfl
  row := by kernel_rfl
  oU32s := by kernel_rfl
  zU32s := by kernel_rfl
  oU32 := by kernel_rfl
  iu := by kernel_rfl
  L := ⟨sl6_ren, sl6, rfl⟩
  enters := Go.Proofs.enters_of Tryd.func141 (by kernel_rfl) rfl
  info := ⟨Tryd.t156, Tryd.t96, by kernel_rfl, by kernel_rfl, by kernel_rfl, by kernel_rfl, by kernel_rfl, by kernel_rfl, by kernel_rfl⟩
  kind := fun _ => by kernel_rfl
  sw2 := ⟨152, by kernel_rfl⟩
  sw6 := ⟨156, true, by kernel_rfl, fun args W => run_callFunc_extern Tryd.func156 (by kernel_rfl) (by kernel_rfl) (by kernel_rfl) (e := Extern.ReflectliteSwapper.swap true) (by kernel_rfl) args W⟩
  less := (tt Tryd.func142 (by kernel_rfl) (by kernel_rfl) (by kernel_rfl) (by decide))
theorem tg : TTexts Tryd.prog E := ⟨tT, sE, (tt Tryd.func121 (by kernel_rfl) (by kernel_rfl) (by kernel_rfl) (by decide)), by decide⟩
theorem tr : TagsR Tryd.prog E (fun _ => True) := tagsR tT sE.iu rt.int (fun _ => rt.cU (by decide)) (fun _ => rt.cS (by decide)) (fun _ => (tt Tryd.func139 (by kernel_rfl) (by kernel_rfl) (by kernel_rfl) (by decide))) (fun _ => (tt Tryd.func116 (by kernel_rfl) (by kernel_rfl) (by kernel_rfl) (by decide)))
theorem ew : EnvW Tryd.prog E (fun _ => True) := envWT kt (by kernel_rfl) tg
theorem ur : UuidR Tryd.prog E := uuidR rt.env rt.mixed (by kernel_rfl) (by kernel_rfl) (by kernel_rfl) (fun _ => rt.cS (by decide)) (fun _ => (tt Tryd.func115 (by kernel_rfl) (by kernel_rfl) (by kernel_rfl) (by decide)))
theorem ei : EnvI Tryd.prog E := ⟨by kernel_rfl, by kernel_rfl⟩
theorem er : EnvR Tryd.prog E (fun _ => True) := envR rt (by decide) ur tr
theorem rx : EnvRX Tryd.prog E := ⟨by kernel_rfl, by kernel_rfl, by kernel_rfl⟩
theorem lv : Text Tryd.prog E.lVersion 2 10 #[.tmp 4] (c_lVersion E) := (tt Tryd.func11 (by kernel_rfl) (by kernel_rfl) (by kernel_rfl) (by decide))
theorem sm : Text Tryd.prog E.sSame 2 26 #[.tmp 4] (c_sSame E) := (tt Tryd.func12 (by kernel_rfl) (by kernel_rfl) (by kernel_rfl) (by decide))
theorem i16k : intT Tryd.prog E.tI16 = some .i16 := by kernel_rfl
theorem ik : intT Tryd.prog E.tI = some .i64 := by kernel_rfl
theorem o16 : oneT Tryd.prog E.tI16 = true := by kernel_rfl
theorem ifE : ifaceT Tryd.prog E.tErr = true := by kernel_rfl
theorem lf : Tryd.prog.liftsFinal = false := by kernel_rfl
theorem me : Tryd.prog.mayEnter = true := by kernel_rfl
theorem lo : laidOutB Tryd.prog = true := by kernel_rfl
theorem own : ownKnob Tryd.prog.godebug = none := by kernel_rfl
end Go.Proofs.YtfgpkjcmhiclbaaDoor
