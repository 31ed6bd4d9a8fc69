/- The numbers of this translation; its functions of kbin have the texts that the contracts are about; its types are laid as they ask. -/
import Derived.Test.YtlfhagnjemjaoaaDoorKb00
import Derived.Test.YtlfhagnjemjaoaaDoorKb01
import Derived.Test.YtlfhagnjemjaoaaDoorKb02
import Derived.Test.YtlfhagnjemjaoaaDoorKb03
import Derived.Test.YtlfhagnjemjaoaaDoorKb04
import Derived.Test.YtlfhagnjemjaoaaDoorRows
set_option linter.unusedVariables false
namespace Go.Proofs.YtlfhagnjemjaoaaDoor
open Go Go.Km
def E : Env := { tErr := 58, tI8 := 40, tI16 := 52, tI32 := 21, tI64 := 2, tU8 := 5, tU16 := 45, tW := 101, tU64 := 145, tO := 4, tF64 := 0, tI := 3, tStr := 9, tPStr := 108, tB := 22, tUuid := 115, tTags := 81, tPTags := 138, tRd := 128, tPRd := 134, rI8 := 104, rI16 := 66, rI32 := 65, rI64 := 86, rU16 := 0, rBool := 0, rF64 := 0, rUuid := 92, rStr := 75, rUStr := 73, rCStr := 74, rUCStr := 72, rNStr := 90, rUNStr := 89, rCNStr := 88, rUCNStr := 87, rBytes := 0, rCBytes := 0, rNBytes := 105, rCNBytes := 0, rLen := 68, rCLen := 67, rOk := 69, rComplete := 70, rTags := 78, wI8 := 0, wI16 := 46, wI32 := 45, wI64 := 56, wU16 := 82, wBool := 0, wF64 := 0, wUuid := 59, wStr := 50, wCStr := 49, wNStr := 58, wCNStr := 57, wBytes := 0, wCBytes := 0, wNBytes := 0, wCNBytes := 0, wLen := 48, wCLen := 47, wNLen := 0, wCNLen := 0, wUvarint := 51, tLen := 52, tEach := 53, tUint := 137, tFld := 69, tFlds := 31, tT := 38, tS := 35, tUnk := 154, tK := 36, tMsg := 33, wU32 := 81, wU64 := 94, uvLen := 83, len32 := 113, sHas := 95, sNull := 117, sWhole := 102, sThings := 118, sAt := 97, sUvar := 100, sFixed := 35, sWidth := 121, sCounted := 119, sValue := 120, sField := 96, sUsual := 99, sKnown := 98, sUnknown := 101, sPart := 62, sDefault := 0, sWrite := 36, sKept := 14, sSame := 10, lVersion := 9, tTagMap := 79, tU32s := 164, tFnTag := 140, tFnLess := 166, tAny := 20, gAll := 84, gEach1 := 85, gAll1 := 115, gSet := 112, sortSlice := 114, rUvar := 109, rSpan := 111, rU64 := 116, kUv := 122, kUs := 110, bU16 := 108, bU32 := 107, bU64 := 128, f64b := 0, f64f := 0, tBE := 158, tUvR := 173, vErr := 1, vBE := 0 }
theorem tu {Q : Program} {f : FuncId} {fn : Func} {np nt : Nat} {res : Array ResultVar} {c : Code} (h : Q.funcs[f]? = some fn) (hb : (fn.body.map bare, fn.ntmps, fn.results, fn.name != "runtime.NumGoroutine") = (some c, nt, res, true) := by kernel_rfl) : Text Q f np nt res c := ⟨fn, h, (Prod.mk.inj hb).1, (Prod.mk.inj (Prod.mk.inj hb).2).1, (Prod.mk.inj (Prod.mk.inj (Prod.mk.inj hb).2).2).1, by simpa using (Prod.mk.inj (Prod.mk.inj (Prod.mk.inj hb).2).2).2⟩
theorem tt {Q : Program} {f : FuncId} {fn : Func} {np nt : Nat} {res : Array ResultVar} {c : Code} (h : Q.funcs[f]? = some fn) (hb : fn.body.map bare = some c) (hn : fn.ntmps = nt) (hr : fn.results = res) (hne : fn.name ≠ "runtime.NumGoroutine") : Text Q f np nt res c := ⟨fn, h, hb, hn, hr, hne⟩
theorem kt : KTexts Tryd.prog E where
  wBool := fun h => absurd rfl h
  wI8 := fun h => absurd rfl h
  wI16 := fun _ => (tu Tryd.func46)
  wU16 := fun _ => (tu Tryd.func82)
  wI32 := fun _ => (tu Tryd.func45)
  wU32 := fun _ => (tu Tryd.func81)
  wI64 := fun _ => (tu Tryd.func56)
  wU64 := fun _ => (tu Tryd.func94)
  wUuid := fun _ => (tu Tryd.func59)
  wStr := fun _ => (tu Tryd.func50)
  wCStr := fun _ => (tu Tryd.func49)
  wNStr := fun _ => (tu Tryd.func58)
  wCNStr := fun _ => (tu Tryd.func57)
  wBytes := fun h => absurd rfl h
  wCBytes := fun h => absurd rfl h
  wNBytes := fun h => absurd rfl h
  wCNBytes := fun h => absurd rfl h
  wLen := fun _ => (tu Tryd.func48)
  wCLen := fun _ => (tu Tryd.func47)
  wNLen := fun h => absurd rfl h
  wCNLen := fun h => absurd rfl h
  uvLen := fun _ => (tu Tryd.func83)
  len32 := fun _ => (tu Tryd.func113)
  wUvarint := fun _ => (tu Tryd.func51)
  tLen := fun _ => (tu Tryd.func52)
  tEach := fun _ => (tu Tryd.func53)
  gAll := fun _ => (tu Tryd.func84)
theorem rt : RTexts Tryd.prog E where
  mixed := (by kernel_rfl)
  row := (by kernel_rfl)
  u8 := (by kernel_rfl)
  int := (by kernel_rfl)
  oBytes := (by kernel_rfl)
  oBool := (by kernel_rfl)
  oU8 := (by kernel_rfl)
  f0 := (by kernel_rfl)
  f1 := (by kernel_rfl)
  i32 := (by kernel_rfl)
  oE := (by kernel_rfl)
  rOk := (tu Tryd.func69)
  rComplete := (tu Tryd.func70)
  rI8 := fun _ => ⟨(by kernel_rfl), (tu Tryd.func104)⟩
  rBool := fun h => absurd rfl h
  rI16 := fun _ => ⟨(by kernel_rfl), (by kernel_rfl), (by kernel_rfl), (tu Tryd.func108), (tu Tryd.func66)⟩
  rU16 := fun h => absurd rfl h
  rI32 := fun _ => ⟨(by kernel_rfl), (by kernel_rfl), (tu Tryd.func107), (tu Tryd.func65)⟩
  rI64 := fun _ => ⟨(by kernel_rfl), (by kernel_rfl), (by kernel_rfl), (tu Tryd.func128), (tu Tryd.func116), (tu Tryd.func86)⟩
  rUvar := fun _ => ⟨(by kernel_rfl), (tu Tryd.func122), (tu Tryd.func109)⟩
  rSpan := fun _ => (tu Tryd.func111)
  rStr := fun _ => ⟨(by kernel_rfl), (by decide), (by decide), (tu Tryd.func75)⟩
  rCStr := fun _ => ⟨(by kernel_rfl), (by decide), (by decide), (tu Tryd.func74)⟩
  rNStr := fun _ => ⟨(by kernel_rfl), (by kernel_rfl), (by kernel_rfl), (by decide), (by decide), (tu Tryd.func90)⟩
  rCNStr := fun _ => ⟨(by kernel_rfl), (by kernel_rfl), (by kernel_rfl), (by decide), (by decide), (tu Tryd.func88)⟩
  rBytes := fun h => absurd rfl h
  rCBytes := fun h => absurd rfl h
  rNBytes := fun _ => ⟨(by decide), (by decide), (tu Tryd.func105)⟩
  rCNBytes := fun h => absurd rfl h
  rLen := fun _ => ⟨(by decide), (tu Tryd.func68)⟩
  rCLen := fun _ => ⟨(by decide), (tu Tryd.func67)⟩
def sl6_ren : Go.Shelf.Ren := ⟨fun | 6 => 114 | 10 => 123 | 11 => 124 | 12 => 125 | 13 => 126 | 14 => 127 | 24 => 113 | 25 => 138 | 26 => 139 | 27 => 140 | 28 => 141 | 29 => 142 | 30 => 143 | 31 => 144 | 32 => 145 | 33 => 146 | 34 => 147 | 35 => 148 | 36 => 149 | 37 => 150 | 38 => 151 | 39 => 152 | n => n, fun | 20 => 20 | 26 => 166 | 35 => 178 | 0 => 0 | 37 => 180 | 3 => 3 | 41 => 137 | 44 => 185 | 49 => 101 | 51 => 145 | 4 => 4 | 54 => 193 | 53 => 192 | 58 => 197 | 5 => 5 | 9 => 9 | 60 => 199 | 64 => 202 | 66 => 204 | 67 => 205 | 17 => 17 | 32 => 175 | 33 => 176 | 82 => 220 | 12 => 12 | 75 => 213 | 76 => 214 | 77 => 215 | 78 => 216 | 79 => 217 | 80 => 218 | n => n, fun | n => n⟩
theorem sl6 : Go.Proofs.LaysGg.n6 Tryd.prog sl6_ren where
  mixed := by kernel_rfl
  f6 := Tryd.func114.trans (congrArg some (by kernel_rfl))
  f10 := Tryd.func123.trans (congrArg some (by kernel_rfl))
  f11 := Tryd.func124.trans (congrArg some (by kernel_rfl))
  f12 := Tryd.func125.trans (congrArg some (by kernel_rfl))
  f13 := Tryd.func126.trans (congrArg some (by kernel_rfl))
  f14 := Tryd.func127.trans (congrArg some (by kernel_rfl))
  f24 := Tryd.func113.trans (congrArg some (by kernel_rfl))
  f25 := Tryd.func138.trans (congrArg some (by kernel_rfl))
  f26 := Tryd.func139.trans (congrArg some (by kernel_rfl))
  f27 := Tryd.func140.trans (congrArg some (by kernel_rfl))
  f28 := Tryd.func141.trans (congrArg some (by kernel_rfl))
  f29 := Tryd.func142.trans (congrArg some (by kernel_rfl))
  f30 := Tryd.func143.trans (congrArg some (by kernel_rfl))
  f31 := Tryd.func144.trans (congrArg some (by kernel_rfl))
  f32 := Tryd.func145.trans (congrArg some (by kernel_rfl))
  f33 := Tryd.func146.trans (congrArg some (by kernel_rfl))
  f34 := Tryd.func147.trans (congrArg some (by kernel_rfl))
  f35 := Tryd.func148.trans (congrArg some (by kernel_rfl))
  f36 := Tryd.func149.trans (congrArg some (by kernel_rfl))
  f37 := Tryd.func150.trans (congrArg some (by kernel_rfl))
  f38 := Tryd.func151.trans (congrArg some (by kernel_rfl))
  f39 := Tryd.func152.trans (congrArg some (by kernel_rfl))
  t0 := Tryd.underlying0
  a0 := Tryd.isAgg0
  z0 := Tryd.sizeOf0
  v0 := Tryd.zeroValue0
  i0 := by kernel_rfl
  t3 := Tryd.underlying3
  a3 := Tryd.isAgg3
  z3 := Tryd.sizeOf3
  v3 := Tryd.zeroValue3
  i3 := by kernel_rfl
  t4 := Tryd.underlying4
  a4 := Tryd.isAgg4
  z4 := Tryd.sizeOf4
  v4 := Tryd.zeroValue4
  i4 := by kernel_rfl
  t5 := Tryd.underlying5
  a5 := Tryd.isAgg5
  z5 := Tryd.sizeOf5
  v5 := Tryd.zeroValue5
  i5 := by kernel_rfl
  t9 := Tryd.underlying9
  a9 := Tryd.isAgg9
  z9 := Tryd.sizeOf9
  v9 := Tryd.zeroValue9
  i9 := by kernel_rfl
  t12 := Tryd.underlying12
  a12 := Tryd.isAgg12
  z12 := Tryd.sizeOf12
  v12 := Tryd.zeroValue12
  i12 := by kernel_rfl
  t17 := Tryd.underlying17
  a17 := Tryd.isAgg17
  z17 := Tryd.sizeOf17
  v17 := Tryd.zeroValue17
  i17 := by kernel_rfl
  t20 := Tryd.underlying20
  a20 := Tryd.isAgg20
  z20 := Tryd.sizeOf20
  v20 := Tryd.zeroValue20
  i20 := by kernel_rfl
  t26 := Tryd.underlying166
  a26 := Tryd.isAgg166
  z26 := Tryd.sizeOf166
  v26 := Tryd.zeroValue166
  i26 := by kernel_rfl
  t32 := Tryd.underlying175
  a32 := Tryd.isAgg175
  z32 := Tryd.sizeOf175
  v32 := Tryd.zeroValue175
  i32 := by kernel_rfl
  t33 := Tryd.underlying176
  a33 := Tryd.isAgg176
  z33 := Tryd.sizeOf176
  v33 := Tryd.zeroValue176
  i33 := by kernel_rfl
  t35 := Tryd.underlying178
  a35 := Tryd.isAgg178
  z35 := Tryd.sizeOf178
  v35 := Tryd.zeroValue178
  i35 := by kernel_rfl
  t37 := Tryd.underlying180
  a37 := Tryd.isAgg180
  z37 := Tryd.sizeOf180
  v37 := Tryd.zeroValue180
  i37 := by kernel_rfl
  t41 := Tryd.underlying137
  a41 := Tryd.isAgg137
  z41 := Tryd.sizeOf137
  v41 := Tryd.zeroValue137
  i41 := by kernel_rfl
  t44 := Tryd.underlying185
  a44 := Tryd.isAgg185
  z44 := Tryd.sizeOf185
  v44 := Tryd.zeroValue185
  i44 := by kernel_rfl
  t49 := Tryd.underlying101
  a49 := Tryd.isAgg101
  z49 := Tryd.sizeOf101
  v49 := Tryd.zeroValue101
  i49 := by kernel_rfl
  t51 := Tryd.underlying145
  a51 := Tryd.isAgg145
  z51 := Tryd.sizeOf145
  v51 := Tryd.zeroValue145
  i51 := by kernel_rfl
  t53 := Tryd.underlying192
  a53 := Tryd.isAgg192
  z53 := Tryd.sizeOf192
  v53 := Tryd.zeroValue192
  i53 := by kernel_rfl
  t54 := Tryd.underlying193
  a54 := Tryd.isAgg193
  z54 := Tryd.sizeOf193
  v54 := Tryd.zeroValue193
  i54 := by kernel_rfl
  t58 := Tryd.underlying197
  a58 := Tryd.isAgg197
  z58 := Tryd.sizeOf197
  v58 := Tryd.zeroValue197
  i58 := by kernel_rfl
  t60 := Tryd.underlying199
  a60 := Tryd.isAgg199
  z60 := Tryd.sizeOf199
  v60 := Tryd.zeroValue199
  i60 := by kernel_rfl
  t64 := Tryd.underlying202
  a64 := Tryd.isAgg202
  z64 := Tryd.sizeOf202
  v64 := Tryd.zeroValue202
  i64 := by kernel_rfl
  t66 := Tryd.underlying204
  a66 := Tryd.isAgg204
  z66 := Tryd.sizeOf204
  v66 := Tryd.zeroValue204
  i66 := by kernel_rfl
  t67 := Tryd.underlying205
  a67 := Tryd.isAgg205
  z67 := Tryd.sizeOf205
  v67 := Tryd.zeroValue205
  i67 := by kernel_rfl
  t75 := Tryd.underlying213
  a75 := Tryd.isAgg213
  z75 := Tryd.sizeOf213
  v75 := Tryd.zeroValue213
  i75 := by kernel_rfl
  t76 := Tryd.underlying214
  a76 := Tryd.isAgg214
  z76 := Tryd.sizeOf214
  v76 := Tryd.zeroValue214
  i76 := by kernel_rfl
  t77 := Tryd.underlying215
  a77 := Tryd.isAgg215
  z77 := Tryd.sizeOf215
  v77 := Tryd.zeroValue215
  i77 := by kernel_rfl
  t78 := Tryd.underlying216
  a78 := Tryd.isAgg216
  z78 := Tryd.sizeOf216
  v78 := Tryd.zeroValue216
  i78 := by kernel_rfl
  t79 := Tryd.underlying217
  a79 := Tryd.isAgg217
  z79 := Tryd.sizeOf217
  v79 := Tryd.zeroValue217
  i79 := by kernel_rfl
  t80 := Tryd.underlying218
  a80 := Tryd.isAgg218
  z80 := Tryd.sizeOf218
  v80 := Tryd.zeroValue218
  i80 := by kernel_rfl
  t82 := Tryd.underlying220
  a82 := Tryd.isAgg220
  z82 := Tryd.sizeOf220
  v82 := Tryd.zeroValue220
  i82 := by kernel_rfl
theorem tT : TagT Tryd.prog E := ⟨by kernel_rfl, by kernel_rfl, by kernel_rfl, by kernel_rfl, by kernel_rfl, by kernel_rfl⟩
theorem sE : SortE Tryd.prog E where
  mixed := by kernel_rfl
  row := by kernel_rfl
  oU32s := by kernel_rfl
  zU32s := by kernel_rfl
  oU32 := by kernel_rfl
  iu := by kernel_rfl
  L := ⟨sl6_ren, sl6, rfl⟩
  enters := Go.Proofs.enters_of Tryd.func114 (by kernel_rfl) rfl
  info := ⟨Tryd.t164, Tryd.t101, by kernel_rfl, by kernel_rfl, by kernel_rfl, by kernel_rfl, by kernel_rfl, by kernel_rfl, by kernel_rfl⟩
  kind := fun _ => by kernel_rfl
  sw2 := ⟨130, by kernel_rfl⟩
  sw6 := ⟨134, true, by kernel_rfl, fun args W => run_callFunc_extern Tryd.func134 (by kernel_rfl) (by kernel_rfl) (by kernel_rfl) (e := Extern.ReflectliteSwapper.swap true) (by kernel_rfl) args W⟩
  less := (tu Tryd.func115)
theorem tg : TTexts Tryd.prog E := ⟨tT, sE, (tu Tryd.func85), by decide⟩
theorem tr : TagsR Tryd.prog E (fun _ => True) := tagsR tT sE.iu rt.int (fun _ => rt.cU (by decide)) (fun _ => rt.cS (by decide)) (fun _ => (tu Tryd.func112)) (fun _ => (tu Tryd.func78))
theorem ew : EnvW Tryd.prog E (fun _ => True) := envWT kt (by kernel_rfl) tg
theorem ur : UuidR Tryd.prog E := uuidR rt.env rt.mixed (by kernel_rfl) (by kernel_rfl) (by kernel_rfl) (fun _ => rt.cS (by decide)) (fun _ => (tu Tryd.func92))
theorem ei : EnvI Tryd.prog E := ⟨by kernel_rfl, by kernel_rfl⟩
theorem er : EnvR Tryd.prog E (fun _ => True) := envR rt (by decide) ur tr
theorem rx : EnvRX Tryd.prog E := ⟨by kernel_rfl, by kernel_rfl, by kernel_rfl⟩
theorem lv : Text Tryd.prog E.lVersion 2 10 #[.tmp 4] (c_lVersion E) := (tu Tryd.func9)
theorem sm : Text Tryd.prog E.sSame 2 26 #[.tmp 4] (c_sSame E) := (tu Tryd.func10)
theorem i16k : intT Tryd.prog E.tI16 = some .i16 := by kernel_rfl
theorem ik : intT Tryd.prog E.tI = some .i64 := by kernel_rfl
theorem o16 : oneT Tryd.prog E.tI16 = true := by kernel_rfl
theorem ifE : ifaceT Tryd.prog E.tErr = true := by kernel_rfl
theorem lf : Tryd.prog.liftsFinal = false := by kernel_rfl
theorem me : Tryd.prog.mayEnter = true := by kernel_rfl
theorem lo : laidOutB Tryd.prog = true := by kernel_rfl
theorem own : ownKnob Tryd.prog.godebug = none := by kernel_rfl
end Go.Proofs.YtlfhagnjemjaoaaDoor
