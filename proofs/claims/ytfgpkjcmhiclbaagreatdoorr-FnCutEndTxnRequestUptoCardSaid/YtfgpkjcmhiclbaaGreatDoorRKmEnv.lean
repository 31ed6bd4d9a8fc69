/- The numbers of this translation; its functions of kbin have the texts that the contracts are about; its types are laid as they ask. -/
import Derived.Test.YtfgpkjcmhiclbaaGreatDoorRKb00
import Derived.Test.YtfgpkjcmhiclbaaGreatDoorRKb01
import Derived.Test.YtfgpkjcmhiclbaaGreatDoorRKb02
import Derived.Test.YtfgpkjcmhiclbaaGreatDoorRKb03
import Derived.Test.YtfgpkjcmhiclbaaGreatDoorRKb04
import Derived.Test.YtfgpkjcmhiclbaaGreatDoorRKb05
import Derived.Test.YtfgpkjcmhiclbaaGreatDoorRRows
set_option linter.unusedVariables false
namespace Go.Proofs.YtfgpkjcmhiclbaaGreatDoorR
open Go Go.Km
def E : Env := { tErr := 52, tI8 := 0, tI16 := 42, tI32 := 21, tI64 := 2, tU8 := 5, tU16 := 27, tW := 61, tU64 := 79, tO := 4, tF64 := 0, tI := 3, tStr := 9, tPStr := 65, tB := 22, tUuid := 97, tTags := 70, tPTags := 139, tRd := 126, tPRd := 135, rI8 := 0, rI16 := 88, rI32 := 103, rI64 := 104, rU16 := 110, rBool := 116, rF64 := 0, rUuid := 106, rStr := 101, rUStr := 99, rCStr := 100, rUCStr := 98, rNStr := 92, rUNStr := 91, rCNStr := 90, rUCNStr := 89, rBytes := 0, rCBytes := 0, rNBytes := 0, rCNBytes := 0, rLen := 94, rCLen := 93, rOk := 95, rComplete := 96, rTags := 107, wI8 := 0, wI16 := 60, wI32 := 67, wI64 := 68, wU16 := 73, wBool := 78, wF64 := 0, wUuid := 69, wStr := 66, wCStr := 65, wNStr := 62, wCNStr := 61, wBytes := 0, wCBytes := 0, wNBytes := 0, wCNBytes := 0, wLen := 64, wCLen := 63, wNLen := 0, wCNLen := 0, wUvarint := 70, tLen := 71, tEach := 72, tUint := 124, tFld := 48, tFlds := 31, tT := 26, tS := 23, tUnk := 63, tK := 24, tMsg := 33, wU32 := 111, wU64 := 112, uvLen := 113, len32 := 124, sHas := 49, sNull := 81, sWhole := 56, sThings := 82, sAt := 51, sUvar := 54, sFixed := 85, sWidth := 86, sCounted := 83, sValue := 84, sField := 50, sUsual := 53, sKnown := 52, sUnknown := 55, sPart := 26, sDefault := 0, sWrite := 9, sKept := 0, sSame := 16, lVersion := 11, tTagMap := 68, tU32s := 150, tFnTag := 141, tFnLess := 152, tAny := 20, gAll := 114, gEach1 := 115, gAll1 := 126, gSet := 123, sortSlice := 125, rUvar := 118, rSpan := 120, rU64 := 122, kUv := 127, kUs := 119, bU16 := 117, bU32 := 121, bU64 := 128, f64b := 0, f64f := 0, tBE := 143, tUvR := 153, vErr := 1, vBE := 0 }
theorem tt {Q : Program} {f : FuncId} {fn : Func} {np nt : Nat} {res : Array ResultVar} {c : Code} (h : Q.funcs[f]? = some fn) (hb : fn.body.map bare = some c) (hn : fn.ntmps = nt) (hr : fn.results = res) (hne : fn.name ≠ "runtime.NumGoroutine") : Text Q f np nt res c := ⟨fn, h, hb, hn, hr, hne⟩
theorem kt : KTexts Tryz.prog E where
  wBool := fun _ => (tt Tryz.func78 (by kernel_rfl) (by kernel_rfl) (by kernel_rfl) (by decide))
  wI8 := fun h => absurd rfl h
  wI16 := fun _ => (tt Tryz.func60 (by kernel_rfl) (by kernel_rfl) (by kernel_rfl) (by decide))
  wU16 := fun _ => (tt Tryz.func73 (by kernel_rfl) (by kernel_rfl) (by kernel_rfl) (by decide))
  wI32 := fun _ => (tt Tryz.func67 (by kernel_rfl) (by kernel_rfl) (by kernel_rfl) (by decide))
  wU32 := fun _ => (tt Tryz.func111 (by kernel_rfl) (by kernel_rfl) (by kernel_rfl) (by decide))
  wI64 := fun _ => (tt Tryz.func68 (by kernel_rfl) (by kernel_rfl) (by kernel_rfl) (by decide))
  wU64 := fun _ => (tt Tryz.func112 (by kernel_rfl) (by kernel_rfl) (by kernel_rfl) (by decide))
  wUuid := fun _ => (tt Tryz.func69 (by kernel_rfl) (by kernel_rfl) (by kernel_rfl) (by decide))
  wStr := fun _ => (tt Tryz.func66 (by kernel_rfl) (by kernel_rfl) (by kernel_rfl) (by decide))
  wCStr := fun _ => (tt Tryz.func65 (by kernel_rfl) (by kernel_rfl) (by kernel_rfl) (by decide))
  wNStr := fun _ => (tt Tryz.func62 (by kernel_rfl) (by kernel_rfl) (by kernel_rfl) (by decide))
  wCNStr := fun _ => (tt Tryz.func61 (by kernel_rfl) (by kernel_rfl) (by kernel_rfl) (by decide))
  wBytes := fun h => absurd rfl h
  wCBytes := fun h => absurd rfl h
  wNBytes := fun h => absurd rfl h
  wCNBytes := fun h => absurd rfl h
  wLen := fun _ => (tt Tryz.func64 (by kernel_rfl) (by kernel_rfl) (by kernel_rfl) (by decide))
  wCLen := fun _ => (tt Tryz.func63 (by kernel_rfl) (by kernel_rfl) (by kernel_rfl) (by decide))
  wNLen := fun h => absurd rfl h
  wCNLen := fun h => absurd rfl h
  uvLen := fun _ => (tt Tryz.func113 (by kernel_rfl) (by kernel_rfl) (by kernel_rfl) (by decide))
  len32 := fun _ => (tt Tryz.func124 (by kernel_rfl) (by kernel_rfl) (by kernel_rfl) (by decide))
  wUvarint := fun _ => (tt Tryz.func70 (by kernel_rfl) (by kernel_rfl) (by kernel_rfl) (by decide))
  tLen := fun _ => (tt Tryz.func71 (by kernel_rfl) (by kernel_rfl) (by kernel_rfl) (by decide))
  tEach := fun _ => (tt Tryz.func72 (by kernel_rfl) (by kernel_rfl) (by kernel_rfl) (by decide))
  gAll := fun _ => (tt Tryz.func114 (by kernel_rfl) (by kernel_rfl) (by kernel_rfl) (by decide))
theorem rt : RTexts Tryz.prog E where
  mixed := (by kernel_rfl)
  row := (by kernel_rfl)
  u8 := (by kernel_rfl)
  int := (by kernel_rfl)
  oBytes := (by kernel_rfl)
  oBool := (by kernel_rfl)
  oU8 := (by kernel_rfl)
  f0 := (by kernel_rfl)
  f1 := (by kernel_rfl)
  i32 := (by kernel_rfl)
  oE := (by kernel_rfl)
  rOk := (tt Tryz.func95 (by kernel_rfl) (by kernel_rfl) (by kernel_rfl) (by decide))
  rComplete := (tt Tryz.func96 (by kernel_rfl) (by kernel_rfl) (by kernel_rfl) (by decide))
  rI8 := fun h => absurd rfl h
  rBool := fun _ => (tt Tryz.func116 (by kernel_rfl) (by kernel_rfl) (by kernel_rfl) (by decide))
  rI16 := fun _ => ⟨(by kernel_rfl), (by kernel_rfl), (by kernel_rfl), (tt Tryz.func117 (by kernel_rfl) (by kernel_rfl) (by kernel_rfl) (by decide)), (tt Tryz.func88 (by kernel_rfl) (by kernel_rfl) (by kernel_rfl) (by decide))⟩
  rU16 := fun _ => ⟨(by kernel_rfl), (by kernel_rfl), (tt Tryz.func117 (by kernel_rfl) (by kernel_rfl) (by kernel_rfl) (by decide)), (tt Tryz.func110 (by kernel_rfl) (by kernel_rfl) (by kernel_rfl) (by decide))⟩
  rI32 := fun _ => ⟨(by kernel_rfl), (by kernel_rfl), (tt Tryz.func121 (by kernel_rfl) (by kernel_rfl) (by kernel_rfl) (by decide)), (tt Tryz.func103 (by kernel_rfl) (by kernel_rfl) (by kernel_rfl) (by decide))⟩
  rI64 := fun _ => ⟨(by kernel_rfl), (by kernel_rfl), (by kernel_rfl), (tt Tryz.func128 (by kernel_rfl) (by kernel_rfl) (by kernel_rfl) (by decide)), (tt Tryz.func122 (by kernel_rfl) (by kernel_rfl) (by kernel_rfl) (by decide)), (tt Tryz.func104 (by kernel_rfl) (by kernel_rfl) (by kernel_rfl) (by decide))⟩
  rUvar := fun _ => ⟨(by kernel_rfl), (tt Tryz.func127 (by kernel_rfl) (by kernel_rfl) (by kernel_rfl) (by decide)), (tt Tryz.func118 (by kernel_rfl) (by kernel_rfl) (by kernel_rfl) (by decide))⟩
  rSpan := fun _ => (tt Tryz.func120 (by kernel_rfl) (by kernel_rfl) (by kernel_rfl) (by decide))
  rStr := fun _ => ⟨(by kernel_rfl), (by decide), (by decide), (tt Tryz.func101 (by kernel_rfl) (by kernel_rfl) (by kernel_rfl) (by decide))⟩
  rCStr := fun _ => ⟨(by kernel_rfl), (by decide), (by decide), (tt Tryz.func100 (by kernel_rfl) (by kernel_rfl) (by kernel_rfl) (by decide))⟩
  rNStr := fun _ => ⟨(by kernel_rfl), (by kernel_rfl), (by kernel_rfl), (by decide), (by decide), (tt Tryz.func92 (by kernel_rfl) (by kernel_rfl) (by kernel_rfl) (by decide))⟩
  rCNStr := fun _ => ⟨(by kernel_rfl), (by kernel_rfl), (by kernel_rfl), (by decide), (by decide), (tt Tryz.func90 (by kernel_rfl) (by kernel_rfl) (by kernel_rfl) (by decide))⟩
  rBytes := fun h => absurd rfl h
  rCBytes := fun h => absurd rfl h
  rNBytes := fun h => absurd rfl h
  rCNBytes := fun h => absurd rfl h
  rLen := fun _ => ⟨(by decide), (tt Tryz.func94 (by kernel_rfl) (by kernel_rfl) (by kernel_rfl) (by decide))⟩
  rCLen := fun _ => ⟨(by decide), (tt Tryz.func93 (by kernel_rfl) (by kernel_rfl) (by kernel_rfl) (by decide))⟩
def sl6_ren : Go.Shelf.Ren := ⟨fun | 6 => 125 | 10 => 129 | 11 => 130 | 12 => 131 | 13 => 132 | 14 => 133 | 24 => 124 | 25 => 143 | 26 => 144 | 27 => 145 | 28 => 146 | 29 => 147 | 30 => 148 | 31 => 149 | 32 => 150 | 33 => 151 | 34 => 152 | 35 => 153 | 36 => 154 | 37 => 155 | 38 => 156 | 39 => 157 | n => n, fun | 20 => 20 | 26 => 152 | 35 => 159 | 0 => 0 | 37 => 161 | 3 => 3 | 41 => 124 | 44 => 166 | 49 => 61 | 51 => 79 | 4 => 4 | 54 => 173 | 53 => 172 | 58 => 177 | 5 => 5 | 9 => 9 | 60 => 179 | 64 => 182 | 66 => 184 | 67 => 185 | 17 => 17 | 32 => 156 | 33 => 157 | 82 => 200 | 12 => 12 | 75 => 193 | 76 => 194 | 77 => 195 | 78 => 196 | 79 => 197 | 80 => 198 | n => n, fun | n => n⟩
theorem sl6 : Go.Proofs.LaysGg.n6 Tryz.prog sl6_ren where
  mixed := by kernel_rfl
  f6 := Tryz.func125.trans (congrArg some (by kernel_rfl))
  f10 := Tryz.func129.trans (congrArg some (by kernel_rfl))
  f11 := Tryz.func130.trans (congrArg some (by kernel_rfl))
  f12 := Tryz.func131.trans (congrArg some (by kernel_rfl))
  f13 := Tryz.func132.trans (congrArg some (by kernel_rfl))
  f14 := Tryz.func133.trans (congrArg some (by kernel_rfl))
  f24 := Tryz.func124.trans (congrArg some (by kernel_rfl))
  f25 := Tryz.func143.trans (congrArg some (by kernel_rfl))
  f26 := Tryz.func144.trans (congrArg some (by kernel_rfl))
  f27 := Tryz.func145.trans (congrArg some (by kernel_rfl))
  f28 := Tryz.func146.trans (congrArg some (by kernel_rfl))
  f29 := Tryz.func147.trans (congrArg some (by kernel_rfl))
  f30 := Tryz.func148.trans (congrArg some (by kernel_rfl))
  f31 := Tryz.func149.trans (congrArg some (by kernel_rfl))
  f32 := Tryz.func150.trans (congrArg some (by kernel_rfl))
  f33 := Tryz.func151.trans (congrArg some (by kernel_rfl))
  f34 := Tryz.func152.trans (congrArg some (by kernel_rfl))
  f35 := Tryz.func153.trans (congrArg some (by kernel_rfl))
  f36 := Tryz.func154.trans (congrArg some (by kernel_rfl))
  f37 := Tryz.func155.trans (congrArg some (by kernel_rfl))
  f38 := Tryz.func156.trans (congrArg some (by kernel_rfl))
  f39 := Tryz.func157.trans (congrArg some (by kernel_rfl))
  t0 := Tryz.underlying0
  a0 := Tryz.isAgg0
  z0 := Tryz.sizeOf0
  v0 := Tryz.zeroValue0
  i0 := by kernel_rfl
  t3 := Tryz.underlying3
  a3 := Tryz.isAgg3
  z3 := Tryz.sizeOf3
  v3 := Tryz.zeroValue3
  i3 := by kernel_rfl
  t4 := Tryz.underlying4
  a4 := Tryz.isAgg4
  z4 := Tryz.sizeOf4
  v4 := Tryz.zeroValue4
  i4 := by kernel_rfl
  t5 := Tryz.underlying5
  a5 := Tryz.isAgg5
  z5 := Tryz.sizeOf5
  v5 := Tryz.zeroValue5
  i5 := by kernel_rfl
  t9 := Tryz.underlying9
  a9 := Tryz.isAgg9
  z9 := Tryz.sizeOf9
  v9 := Tryz.zeroValue9
  i9 := by kernel_rfl
  t12 := Tryz.underlying12
  a12 := Tryz.isAgg12
  z12 := Tryz.sizeOf12
  v12 := Tryz.zeroValue12
  i12 := by kernel_rfl
  t17 := Tryz.underlying17
  a17 := Tryz.isAgg17
  z17 := Tryz.sizeOf17
  v17 := Tryz.zeroValue17
  i17 := by kernel_rfl
  t20 := Tryz.underlying20
  a20 := Tryz.isAgg20
  z20 := Tryz.sizeOf20
  v20 := Tryz.zeroValue20
  i20 := by kernel_rfl
  t26 := Tryz.underlying152
  a26 := Tryz.isAgg152
  z26 := Tryz.sizeOf152
  v26 := Tryz.zeroValue152
  i26 := by kernel_rfl
  t32 := Tryz.underlying156
  a32 := Tryz.isAgg156
  z32 := Tryz.sizeOf156
  v32 := Tryz.zeroValue156
  i32 := by kernel_rfl
  t33 := Tryz.underlying157
  a33 := Tryz.isAgg157
  z33 := Tryz.sizeOf157
  v33 := Tryz.zeroValue157
  i33 := by kernel_rfl
  t35 := Tryz.underlying159
  a35 := Tryz.isAgg159
  z35 := Tryz.sizeOf159
  v35 := Tryz.zeroValue159
  i35 := by kernel_rfl
  t37 := Tryz.underlying161
  a37 := Tryz.isAgg161
  z37 := Tryz.sizeOf161
  v37 := Tryz.zeroValue161
  i37 := by kernel_rfl
  t41 := Tryz.underlying124
  a41 := Tryz.isAgg124
  z41 := Tryz.sizeOf124
  v41 := Tryz.zeroValue124
  i41 := by kernel_rfl
  t44 := Tryz.underlying166
  a44 := Tryz.isAgg166
  z44 := Tryz.sizeOf166
  v44 := Tryz.zeroValue166
  i44 := by kernel_rfl
  t49 := Tryz.underlying61
  a49 := Tryz.isAgg61
  z49 := Tryz.sizeOf61
  v49 := Tryz.zeroValue61
  i49 := by kernel_rfl
  t51 := Tryz.underlying79
  a51 := Tryz.isAgg79
  z51 := Tryz.sizeOf79
  v51 := Tryz.zeroValue79
  i51 := by kernel_rfl
  t53 := Tryz.underlying172
  a53 := Tryz.isAgg172
  z53 := Tryz.sizeOf172
  v53 := Tryz.zeroValue172
  i53 := by kernel_rfl
  t54 := Tryz.underlying173
  a54 := Tryz.isAgg173
  z54 := Tryz.sizeOf173
  v54 := Tryz.zeroValue173
  i54 := by kernel_rfl
  t58 := Tryz.underlying177
  a58 := Tryz.isAgg177
  z58 := Tryz.sizeOf177
  v58 := Tryz.zeroValue177
  i58 := by kernel_rfl
  t60 := Tryz.underlying179
  a60 := Tryz.isAgg179
  z60 := Tryz.sizeOf179
  v60 := Tryz.zeroValue179
  i60 := by kernel_rfl
  t64 := Tryz.underlying182
  a64 := Tryz.isAgg182
  z64 := Tryz.sizeOf182
  v64 := Tryz.zeroValue182
  i64 := by kernel_rfl
  t66 := Tryz.underlying184
  a66 := Tryz.isAgg184
  z66 := Tryz.sizeOf184
  v66 := Tryz.zeroValue184
  i66 := by kernel_rfl
  t67 := Tryz.underlying185
  a67 := Tryz.isAgg185
  z67 := Tryz.sizeOf185
  v67 := Tryz.zeroValue185
  i67 := by kernel_rfl
  t75 := Tryz.underlying193
  a75 := Tryz.isAgg193
  z75 := Tryz.sizeOf193
  v75 := Tryz.zeroValue193
  i75 := by kernel_rfl
  t76 := Tryz.underlying194
  a76 := Tryz.isAgg194
  z76 := Tryz.sizeOf194
  v76 := Tryz.zeroValue194
  i76 := by kernel_rfl
  t77 := Tryz.underlying195
  a77 := Tryz.isAgg195
  z77 := Tryz.sizeOf195
  v77 := Tryz.zeroValue195
  i77 := by kernel_rfl
  t78 := Tryz.underlying196
  a78 := Tryz.isAgg196
  z78 := Tryz.sizeOf196
  v78 := Tryz.zeroValue196
  i78 := by kernel_rfl
  t79 := Tryz.underlying197
  a79 := Tryz.isAgg197
  z79 := Tryz.sizeOf197
  v79 := Tryz.zeroValue197
  i79 := by kernel_rfl
  t80 := Tryz.underlying198
  a80 := Tryz.isAgg198
  z80 := Tryz.sizeOf198
  v80 := Tryz.zeroValue198
  i80 := by kernel_rfl
  t82 := Tryz.underlying200
  a82 := Tryz.isAgg200
  z82 := Tryz.sizeOf200
  v82 := Tryz.zeroValue200
  i82 := by kernel_rfl
theorem tT : TagT Tryz.prog E := ⟨by kernel_rfl, by kernel_rfl, by kernel_rfl, by kernel_rfl, by kernel_rfl, by kernel_rfl⟩
theorem sE : SortE Tryz.prog E where
  mixed := by kernel_rfl
  row := by kernel_rfl
  oU32s := by kernel_rfl
  zU32s := by kernel_rfl
  oU32 := by kernel_rfl
  iu := by kernel_rfl
  L := ⟨sl6_ren, sl6, rfl⟩
  enters := Go.Proofs.enters_of Tryz.func125 (by kernel_rfl) rfl
  info := ⟨Tryz.t150, Tryz.t61, by kernel_rfl, by kernel_rfl, by kernel_rfl, by kernel_rfl, by kernel_rfl, by kernel_rfl, by kernel_rfl⟩
  kind := fun _ => by kernel_rfl
  sw2 := ⟨135, by kernel_rfl⟩
  sw6 := ⟨139, true, by kernel_rfl, fun args W => run_callFunc_extern Tryz.func139 (by kernel_rfl) (by kernel_rfl) (by kernel_rfl) (e := Extern.ReflectliteSwapper.swap true) (by kernel_rfl) args W⟩
  less := (tt Tryz.func126 (by kernel_rfl) (by kernel_rfl) (by kernel_rfl) (by decide))
theorem tg : TTexts Tryz.prog E := ⟨tT, sE, (tt Tryz.func115 (by kernel_rfl) (by kernel_rfl) (by kernel_rfl) (by decide)), by decide⟩
theorem tr : TagsR Tryz.prog E (fun _ => True) := tagsR tT sE.iu rt.int (fun _ => rt.cU (by decide)) (fun _ => rt.cS (by decide)) (fun _ => (tt Tryz.func123 (by kernel_rfl) (by kernel_rfl) (by kernel_rfl) (by decide))) (fun _ => (tt Tryz.func107 (by kernel_rfl) (by kernel_rfl) (by kernel_rfl) (by decide)))
theorem ew : EnvW Tryz.prog E (fun _ => True) := envWT kt (by kernel_rfl) tg
theorem ur : UuidR Tryz.prog E := uuidR rt.env rt.mixed (by kernel_rfl) (by kernel_rfl) (by kernel_rfl) (fun _ => rt.cS (by decide)) (fun _ => (tt Tryz.func106 (by kernel_rfl) (by kernel_rfl) (by kernel_rfl) (by decide)))
theorem ei : EnvI Tryz.prog E := ⟨by kernel_rfl, by kernel_rfl⟩
theorem er : EnvR Tryz.prog E (fun _ => True) := envR rt (by decide) ur tr
theorem rx : EnvRX Tryz.prog E := ⟨by kernel_rfl, by kernel_rfl, by kernel_rfl⟩
theorem lv : Text Tryz.prog E.lVersion 2 10 #[.tmp 4] (c_lVersion E) := (tt Tryz.func11 (by kernel_rfl) (by kernel_rfl) (by kernel_rfl) (by decide))
theorem sm : Text Tryz.prog E.sSame 2 26 #[.tmp 4] (c_sSame E) := (tt Tryz.func16 (by kernel_rfl) (by kernel_rfl) (by kernel_rfl) (by decide))
theorem i16k : intT Tryz.prog E.tI16 = some .i16 := by kernel_rfl
theorem ik : intT Tryz.prog E.tI = some .i64 := by kernel_rfl
theorem o16 : oneT Tryz.prog E.tI16 = true := by kernel_rfl
theorem ifE : ifaceT Tryz.prog E.tErr = true := by kernel_rfl
theorem lf : Tryz.prog.liftsFinal = false := by kernel_rfl
theorem me : Tryz.prog.mayEnter = true := by kernel_rfl
theorem lo : laidOutB Tryz.prog = true := by kernel_rfl
theorem own : ownKnob Tryz.prog.godebug = none := by kernel_rfl
end Go.Proofs.YtfgpkjcmhiclbaaGreatDoorR
