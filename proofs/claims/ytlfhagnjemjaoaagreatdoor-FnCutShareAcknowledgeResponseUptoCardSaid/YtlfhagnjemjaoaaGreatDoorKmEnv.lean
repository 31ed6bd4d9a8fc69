/- The numbers of this translation; its functions of kbin have the texts that the contracts are about; its types are laid as they ask. -/
import Derived.Test.YtlfhagnjemjaoaaGreatDoorKb00
import Derived.Test.YtlfhagnjemjaoaaGreatDoorKb01
import Derived.Test.YtlfhagnjemjaoaaGreatDoorKb02
import Derived.Test.YtlfhagnjemjaoaaGreatDoorKb03
import Derived.Test.YtlfhagnjemjaoaaGreatDoorKb04
import Derived.Test.YtlfhagnjemjaoaaGreatDoorKb05
import Derived.Test.YtlfhagnjemjaoaaGreatDoorRows
set_option linter.unusedVariables false
namespace Go.Proofs.YtlfhagnjemjaoaaGreatDoor
open Go Go.Km
def E : Env := { tErr := 52, tI8 := 0, tI16 := 42, tI32 := 21, tI64 := 2, tU8 := 5, tU16 := 39, tW := 65, tU64 := 81, tO := 4, tF64 := 154, tI := 3, tStr := 9, tPStr := 102, tB := 22, tUuid := 121, tTags := 72, tPTags := 190, tRd := 179, tPRd := 186, rI8 := 0, rI16 := 123, rI32 := 122, rI64 := 135, rU16 := 0, rBool := 136, rF64 := 160, rUuid := 151, rStr := 132, rUStr := 130, rCStr := 131, rUCStr := 129, rNStr := 147, rUNStr := 146, rCNStr := 145, rUCNStr := 144, rBytes := 0, rCBytes := 0, rNBytes := 0, rCNBytes := 0, rLen := 125, rCLen := 124, rOk := 126, rComplete := 127, rTags := 137, wI8 := 0, wI16 := 84, wI32 := 83, wI64 := 89, wU16 := 139, wBool := 90, wF64 := 111, wUuid := 103, wStr := 88, wCStr := 87, wNStr := 98, wCNStr := 97, wBytes := 0, wCBytes := 0, wNBytes := 0, wCNBytes := 0, wLen := 86, wCLen := 85, wNLen := 102, wCNLen := 101, wUvarint := 91, tLen := 92, tEach := 93, tUint := 177, tFld := 48, tFlds := 30, tT := 26, tS := 23, tUnk := 67, tK := 24, tMsg := 32, wU32 := 138, wU64 := 140, uvLen := 141, len32 := 172, sHas := 73, sNull := 115, sWhole := 80, sThings := 116, sAt := 75, sUvar := 78, sFixed := 119, sWidth := 120, sCounted := 117, sValue := 118, sField := 74, sUsual := 77, sKnown := 76, sUnknown := 79, sPart := 34, sDefault := 0, sWrite := 11, sKept := 0, sSame := 15, lVersion := 13, tTagMap := 70, tU32s := 205, tFnTag := 192, tFnLess := 207, tAny := 20, gAll := 142, gEach1 := 143, gAll1 := 174, gSet := 171, sortSlice := 173, rUvar := 167, rSpan := 169, rU64 := 170, kUv := 176, kUs := 168, bU16 := 166, bU32 := 165, bU64 := 177, f64b := 161, f64f := 175, tBE := 198, tUvR := 209, vErr := 1, vBE := 0 }
theorem tu {Q : Program} {f : FuncId} {fn : Func} {np nt : Nat} {res : Array ResultVar} {c : Code} (h : Q.funcs[f]? = some fn) (hb : (fn.body.map bare, fn.ntmps, fn.results, fn.name != "runtime.NumGoroutine") = (some c, nt, res, true) := by kernel_rfl) : Text Q f np nt res c := ⟨fn, h, (Prod.mk.inj hb).1, (Prod.mk.inj (Prod.mk.inj hb).2).1, (Prod.mk.inj (Prod.mk.inj (Prod.mk.inj hb).2).2).1, by simpa using (Prod.mk.inj (Prod.mk.inj (Prod.mk.inj hb).2).2).2⟩
theorem tt {Q : Program} {f : FuncId} {fn : Func} {np nt : Nat} {res : Array ResultVar} {c : Code} (h : Q.funcs[f]? = some fn) (hb : fn.body.map bare = some c) (hn : fn.ntmps = nt) (hr : fn.results = res) (hne : fn.name ≠ "runtime.NumGoroutine") : Text Q f np nt res c := ⟨fn, h, hb, hn, hr, hne⟩
theorem kt : KTexts Tryz.prog E.noF where
  wBool := fun _ => (tu Tryz.func90)
  wI8 := fun h => absurd rfl h
  wI16 := fun _ => (tu Tryz.func84)
  wU16 := fun _ => (tu Tryz.func139)
  wI32 := fun _ => (tu Tryz.func83)
  wU32 := fun _ => (tu Tryz.func138)
  wI64 := fun _ => (tu Tryz.func89)
  wU64 := fun _ => (tu Tryz.func140)
  wUuid := fun _ => (tu Tryz.func103)
  wStr := fun _ => (tu Tryz.func88)
  wCStr := fun _ => (tu Tryz.func87)
  wNStr := fun _ => (tu Tryz.func98)
  wCNStr := fun _ => (tu Tryz.func97)
  wBytes := fun h => absurd rfl h
  wCBytes := fun h => absurd rfl h
  wNBytes := fun h => absurd rfl h
  wCNBytes := fun h => absurd rfl h
  wLen := fun _ => (tu Tryz.func86)
  wCLen := fun _ => (tu Tryz.func85)
  wNLen := fun _ => (tu Tryz.func102)
  wCNLen := fun _ => (tu Tryz.func101)
  uvLen := fun _ => (tu Tryz.func141)
  len32 := fun _ => (tu Tryz.func172)
  wUvarint := fun _ => (tu Tryz.func91)
  tLen := fun _ => (tu Tryz.func92)
  tEach := fun _ => (tu Tryz.func93)
  gAll := fun _ => (tu Tryz.func142)
theorem rt : RTexts Tryz.prog E.noF where
  mixed := (by kernel_rfl)
  row := (by kernel_rfl)
  u8 := (by kernel_rfl)
  int := (by kernel_rfl)
  oBytes := (by kernel_rfl)
  oBool := (by kernel_rfl)
  oU8 := (by kernel_rfl)
  f0 := (by kernel_rfl)
  f1 := (by kernel_rfl)
  i32 := (by kernel_rfl)
  oE := (by kernel_rfl)
  rOk := (tu Tryz.func126)
  rComplete := (tu Tryz.func127)
  rI8 := fun h => absurd rfl h
  rBool := fun _ => (tu Tryz.func136)
  rI16 := fun _ => ⟨(by kernel_rfl), (by kernel_rfl), (by kernel_rfl), (tu Tryz.func166), (tu Tryz.func123)⟩
  rU16 := fun h => absurd rfl h
  rI32 := fun _ => ⟨(by kernel_rfl), (by kernel_rfl), (tu Tryz.func165), (tu Tryz.func122)⟩
  rI64 := fun _ => ⟨(by kernel_rfl), (by kernel_rfl), (by kernel_rfl), (tu Tryz.func177), (tu Tryz.func170), (tu Tryz.func135)⟩
  rUvar := fun _ => ⟨(by kernel_rfl), (tu Tryz.func176), (tu Tryz.func167)⟩
  rSpan := fun _ => (tu Tryz.func169)
  rStr := fun _ => ⟨(by kernel_rfl), (by decide), (by decide), (tu Tryz.func132)⟩
  rCStr := fun _ => ⟨(by kernel_rfl), (by decide), (by decide), (tu Tryz.func131)⟩
  rNStr := fun _ => ⟨(by kernel_rfl), (by kernel_rfl), (by kernel_rfl), (by decide), (by decide), (tu Tryz.func147)⟩
  rCNStr := fun _ => ⟨(by kernel_rfl), (by kernel_rfl), (by kernel_rfl), (by decide), (by decide), (tu Tryz.func145)⟩
  rBytes := fun h => absurd rfl h
  rCBytes := fun h => absurd rfl h
  rNBytes := fun h => absurd rfl h
  rCNBytes := fun h => absurd rfl h
  rLen := fun _ => ⟨(by decide), (tu Tryz.func125)⟩
  rCLen := fun _ => ⟨(by decide), (tu Tryz.func124)⟩
def sl6_ren : Go.Shelf.Ren := ⟨fun | 6 => 173 | 10 => 178 | 11 => 179 | 12 => 180 | 13 => 181 | 14 => 182 | 24 => 172 | 25 => 192 | 26 => 193 | 27 => 194 | 28 => 195 | 29 => 196 | 30 => 197 | 31 => 198 | 32 => 199 | 33 => 200 | 34 => 201 | 35 => 202 | 36 => 203 | 37 => 204 | 38 => 205 | 39 => 206 | n => n, fun | 20 => 20 | 26 => 207 | 35 => 215 | 0 => 0 | 37 => 217 | 3 => 3 | 41 => 177 | 44 => 222 | 49 => 65 | 51 => 81 | 4 => 4 | 54 => 229 | 53 => 228 | 58 => 233 | 5 => 5 | 9 => 9 | 60 => 235 | 64 => 238 | 66 => 240 | 67 => 241 | 17 => 17 | 32 => 212 | 33 => 213 | 82 => 256 | 12 => 12 | 75 => 249 | 76 => 250 | 77 => 251 | 78 => 252 | 79 => 253 | 80 => 254 | n => n, fun | n => n⟩
theorem sl6 : Go.Proofs.LaysGg.n6 Tryz.prog sl6_ren where
  mixed := by kernel_rfl
  f6 := Tryz.func173.trans (congrArg some (by kernel_rfl))
  f10 := Tryz.func178.trans (congrArg some (by kernel_rfl))
  f11 := Tryz.func179.trans (congrArg some (by kernel_rfl))
  f12 := Tryz.func180.trans (congrArg some (by kernel_rfl))
  f13 := Tryz.func181.trans (congrArg some (by kernel_rfl))
  f14 := Tryz.func182.trans (congrArg some (by kernel_rfl))
  f24 := Tryz.func172.trans (congrArg some (by kernel_rfl))
  f25 := Tryz.func192.trans (congrArg some (by kernel_rfl))
  f26 := Tryz.func193.trans (congrArg some (by kernel_rfl))
  f27 := Tryz.func194.trans (congrArg some (by kernel_rfl))
  f28 := Tryz.func195.trans (congrArg some (by kernel_rfl))
  f29 := Tryz.func196.trans (congrArg some (by kernel_rfl))
  f30 := Tryz.func197.trans (congrArg some (by kernel_rfl))
  f31 := Tryz.func198.trans (congrArg some (by kernel_rfl))
  f32 := Tryz.func199.trans (congrArg some (by kernel_rfl))
  f33 := Tryz.func200.trans (congrArg some (by kernel_rfl))
  f34 := Tryz.func201.trans (congrArg some (by kernel_rfl))
  f35 := Tryz.func202.trans (congrArg some (by kernel_rfl))
  f36 := Tryz.func203.trans (congrArg some (by kernel_rfl))
  f37 := Tryz.func204.trans (congrArg some (by kernel_rfl))
  f38 := Tryz.func205.trans (congrArg some (by kernel_rfl))
  f39 := Tryz.func206.trans (congrArg some (by kernel_rfl))
  t0 := Tryz.underlying0
  a0 := Tryz.isAgg0
  z0 := Tryz.sizeOf0
  v0 := Tryz.zeroValue0
  i0 := by kernel_rfl
  t3 := Tryz.underlying3
  a3 := Tryz.isAgg3
  z3 := Tryz.sizeOf3
  v3 := Tryz.zeroValue3
  i3 := by kernel_rfl
  t4 := Tryz.underlying4
  a4 := Tryz.isAgg4
  z4 := Tryz.sizeOf4
  v4 := Tryz.zeroValue4
  i4 := by kernel_rfl
  t5 := Tryz.underlying5
  a5 := Tryz.isAgg5
  z5 := Tryz.sizeOf5
  v5 := Tryz.zeroValue5
  i5 := by kernel_rfl
  t9 := Tryz.underlying9
  a9 := Tryz.isAgg9
  z9 := Tryz.sizeOf9
  v9 := Tryz.zeroValue9
  i9 := by kernel_rfl
  t12 := Tryz.underlying12
  a12 := Tryz.isAgg12
  z12 := Tryz.sizeOf12
  v12 := Tryz.zeroValue12
  i12 := by kernel_rfl
  t17 := Tryz.underlying17
  a17 := Tryz.isAgg17
  z17 := Tryz.sizeOf17
  v17 := Tryz.zeroValue17
  i17 := by kernel_rfl
  t20 := Tryz.underlying20
  a20 := Tryz.isAgg20
  z20 := Tryz.sizeOf20
  v20 := Tryz.zeroValue20
  i20 := by kernel_rfl
  t26 := Tryz.underlying207
  a26 := Tryz.isAgg207
  z26 := Tryz.sizeOf207
  v26 := Tryz.zeroValue207
  i26 := by kernel_rfl
  t32 := Tryz.underlying212
  a32 := Tryz.isAgg212
  z32 := Tryz.sizeOf212
  v32 := Tryz.zeroValue212
  i32 := by kernel_rfl
  t33 := Tryz.underlying213
  a33 := Tryz.isAgg213
  z33 := Tryz.sizeOf213
  v33 := Tryz.zeroValue213
  i33 := by kernel_rfl
  t35 := Tryz.underlying215
  a35 := Tryz.isAgg215
  z35 := Tryz.sizeOf215
  v35 := Tryz.zeroValue215
  i35 := by kernel_rfl
  t37 := Tryz.underlying217
  a37 := Tryz.isAgg217
  z37 := Tryz.sizeOf217
  v37 := Tryz.zeroValue217
  i37 := by kernel_rfl
  t41 := Tryz.underlying177
  a41 := Tryz.isAgg177
  z41 := Tryz.sizeOf177
  v41 := Tryz.zeroValue177
  i41 := by kernel_rfl
  t44 := Tryz.underlying222
  a44 := Tryz.isAgg222
  z44 := Tryz.sizeOf222
  v44 := Tryz.zeroValue222
  i44 := by kernel_rfl
  t49 := Tryz.underlying65
  a49 := Tryz.isAgg65
  z49 := Tryz.sizeOf65
  v49 := Tryz.zeroValue65
  i49 := by kernel_rfl
  t51 := Tryz.underlying81
  a51 := Tryz.isAgg81
  z51 := Tryz.sizeOf81
  v51 := Tryz.zeroValue81
  i51 := by kernel_rfl
  t53 := Tryz.underlying228
  a53 := Tryz.isAgg228
  z53 := Tryz.sizeOf228
  v53 := Tryz.zeroValue228
  i53 := by kernel_rfl
  t54 := Tryz.underlying229
  a54 := Tryz.isAgg229
  z54 := Tryz.sizeOf229
  v54 := Tryz.zeroValue229
  i54 := by kernel_rfl
  t58 := Tryz.underlying233
  a58 := Tryz.isAgg233
  z58 := Tryz.sizeOf233
  v58 := Tryz.zeroValue233
  i58 := by kernel_rfl
  t60 := Tryz.underlying235
  a60 := Tryz.isAgg235
  z60 := Tryz.sizeOf235
  v60 := Tryz.zeroValue235
  i60 := by kernel_rfl
  t64 := Tryz.underlying238
  a64 := Tryz.isAgg238
  z64 := Tryz.sizeOf238
  v64 := Tryz.zeroValue238
  i64 := by kernel_rfl
  t66 := Tryz.underlying240
  a66 := Tryz.isAgg240
  z66 := Tryz.sizeOf240
  v66 := Tryz.zeroValue240
  i66 := by kernel_rfl
  t67 := Tryz.underlying241
  a67 := Tryz.isAgg241
  z67 := Tryz.sizeOf241
  v67 := Tryz.zeroValue241
  i67 := by kernel_rfl
  t75 := Tryz.underlying249
  a75 := Tryz.isAgg249
  z75 := Tryz.sizeOf249
  v75 := Tryz.zeroValue249
  i75 := by kernel_rfl
  t76 := Tryz.underlying250
  a76 := Tryz.isAgg250
  z76 := Tryz.sizeOf250
  v76 := Tryz.zeroValue250
  i76 := by kernel_rfl
  t77 := Tryz.underlying251
  a77 := Tryz.isAgg251
  z77 := Tryz.sizeOf251
  v77 := Tryz.zeroValue251
  i77 := by kernel_rfl
  t78 := Tryz.underlying252
  a78 := Tryz.isAgg252
  z78 := Tryz.sizeOf252
  v78 := Tryz.zeroValue252
  i78 := by kernel_rfl
  t79 := Tryz.underlying253
  a79 := Tryz.isAgg253
  z79 := Tryz.sizeOf253
  v79 := Tryz.zeroValue253
  i79 := by kernel_rfl
  t80 := Tryz.underlying254
  a80 := Tryz.isAgg254
  z80 := Tryz.sizeOf254
  v80 := Tryz.zeroValue254
  i80 := by kernel_rfl
  t82 := Tryz.underlying256
  a82 := Tryz.isAgg256
  z82 := Tryz.sizeOf256
  v82 := Tryz.zeroValue256
  i82 := by kernel_rfl
theorem tT : TagT Tryz.prog E.noF := ⟨by kernel_rfl, by kernel_rfl, by kernel_rfl, by kernel_rfl, by kernel_rfl, by kernel_rfl⟩
theorem sE : SortE Tryz.prog E.noF where
  mixed := by kernel_rfl
  row := by kernel_rfl
  oU32s := by kernel_rfl
  zU32s := by kernel_rfl
  oU32 := by kernel_rfl
  iu := by kernel_rfl
  L := ⟨sl6_ren, sl6, rfl⟩
  enters := Go.Proofs.enters_of Tryz.func173 (by kernel_rfl) rfl
  info := ⟨Tryz.t205, Tryz.t65, by kernel_rfl, by kernel_rfl, by kernel_rfl, by kernel_rfl, by kernel_rfl, by kernel_rfl, by kernel_rfl⟩
  kind := fun _ => by kernel_rfl
  sw2 := ⟨184, by kernel_rfl⟩
  sw6 := ⟨188, true, by kernel_rfl, fun args W => run_callFunc_extern Tryz.func188 (by kernel_rfl) (by kernel_rfl) (by kernel_rfl) (e := Extern.ReflectliteSwapper.swap true) (by kernel_rfl) args W⟩
  less := (tu Tryz.func174)
theorem tg : TTexts Tryz.prog E.noF := ⟨tT, sE, (tu Tryz.func143), by decide⟩
theorem tr : TagsR Tryz.prog E.noF (fun _ => True) := tagsR tT sE.iu rt.int (fun _ => rt.cU (by decide)) (fun _ => rt.cS (by decide)) (fun _ => (tu Tryz.func171)) (fun _ => (tu Tryz.func137))
theorem ew0 : EnvW Tryz.prog E.noF (fun _ => True) := envWT kt (by kernel_rfl) tg
theorem ur : UuidR Tryz.prog E.noF := uuidR rt.env rt.mixed (by kernel_rfl) (by kernel_rfl) (by kernel_rfl) (fun _ => rt.cS (by decide)) (fun _ => (tu Tryz.func151))
theorem ei : EnvI Tryz.prog E := ⟨by kernel_rfl, by kernel_rfl⟩
theorem er0 : EnvR Tryz.prog E.noF (fun _ => True) := envR rt (by decide) ur tr
theorem ft : FTexts Tryz.prog E := ⟨by kernel_rfl, by kernel_rfl, by kernel_rfl, by kernel_rfl, by kernel_rfl, (tu Tryz.func111), (tu Tryz.func140), (tu Tryz.func160), (tu Tryz.func170), (tu Tryz.func177), fun x w => (run_callFunc_extern Tryz.func161 (by kernel_rfl) (by kernel_rfl) (by kernel_rfl) (e := Extern.MathFloatBits.float64bits) (by kernel_rfl) _ w).trans rfl, fun x w => (run_callFunc_extern Tryz.func175 (by kernel_rfl) (by kernel_rfl) (by kernel_rfl) (e := Extern.MathFloatBits.float64frombits) (by kernel_rfl) _ w).trans rfl⟩
theorem ew : EnvW Tryz.prog E (fun _ => True) := envWF ft ew0
theorem er : EnvR Tryz.prog E (fun _ => True) := envRF ft ⟨rt.row, rt.u8, rt.int, rt.oBytes, rt.oBool, rt.oU8, rt.f0, rt.f1⟩ er0
theorem rx : EnvRX Tryz.prog E := ⟨by kernel_rfl, by kernel_rfl, by kernel_rfl⟩
theorem lv : Text Tryz.prog E.lVersion 2 10 #[.tmp 4] (c_lVersion E) := (tu Tryz.func13)
theorem sm : Text Tryz.prog E.sSame 2 26 #[.tmp 4] (c_sSame E) := (tu Tryz.func15)
theorem i16k : intT Tryz.prog E.tI16 = some .i16 := by kernel_rfl
theorem ik : intT Tryz.prog E.tI = some .i64 := by kernel_rfl
theorem o16 : oneT Tryz.prog E.tI16 = true := by kernel_rfl
theorem ifE : ifaceT Tryz.prog E.tErr = true := by kernel_rfl
theorem lf : Tryz.prog.liftsFinal = false := by kernel_rfl
theorem me : Tryz.prog.mayEnter = true := by kernel_rfl
theorem lo : laidOutB Tryz.prog = true := by kernel_rfl
theorem own : ownKnob Tryz.prog.godebug = none := by kernel_rfl
end Go.Proofs.YtlfhagnjemjaoaaGreatDoor
