/- The numbers of this translation; its functions of kbin have the texts that the contracts are about; its types are laid as they ask. -/
import Derived.Test.YtapmfbenmeigpaaGreatDoorKb00
import Derived.Test.YtapmfbenmeigpaaGreatDoorKb01
import Derived.Test.YtapmfbenmeigpaaGreatDoorKb02
import Derived.Test.YtapmfbenmeigpaaGreatDoorKb03
import Derived.Test.YtapmfbenmeigpaaGreatDoorKb04
import Derived.Test.YtapmfbenmeigpaaGreatDoorKb05
import Derived.Test.YtapmfbenmeigpaaGreatDoorRows
set_option linter.unusedVariables false
namespace Go.Proofs.YtapmfbenmeigpaaGreatDoor
open Go Go.Km
def E : Env := { tErr := 51, tI8 := 91, tI16 := 42, tI32 := 21, tI64 := 2, tU8 := 5, tU16 := 39, tW := 67, tU64 := 83, tO := 4, tF64 := 0, tI := 3, tStr := 9, tPStr := 71, tB := 22, tUuid := 105, tTags := 74, tPTags := 166, tRd := 156, tPRd := 161, rI8 := 141, rI16 := 126, rI32 := 152, rI64 := 133, rU16 := 0, rBool := 0, rF64 := 0, rUuid := 150, rStr := 145, rUStr := 143, rCStr := 144, rUCStr := 142, rNStr := 130, rUNStr := 129, rCNStr := 128, rUCNStr := 127, rBytes := 132, rCBytes := 131, rNBytes := 0, rCNBytes := 0, rLen := 147, rCLen := 146, rOk := 148, rComplete := 135, rTags := 134, wI8 := 99, wI16 := 88, wI32 := 108, wI64 := 93, wU16 := 136, wBool := 0, wF64 := 0, wUuid := 107, wStr := 104, wCStr := 103, wNStr := 90, wCNStr := 89, wBytes := 92, wCBytes := 91, wNBytes := 0, wCNBytes := 0, wLen := 106, wCLen := 105, wNLen := 112, wCNLen := 111, wUvarint := 94, tLen := 95, tEach := 96, tUint := 154, tFld := 48, tFlds := 30, tT := 26, tS := 23, tUnk := 69, tK := 24, tMsg := 32, wU32 := 153, wU64 := 137, uvLen := 138, len32 := 167, sHas := 79, sNull := 120, sWhole := 86, sThings := 121, sAt := 81, sUvar := 84, sFixed := 124, sWidth := 125, sCounted := 122, sValue := 123, sField := 80, sUsual := 83, sKnown := 82, sUnknown := 85, sPart := 38, sDefault := 0, sWrite := 12, sKept := 0, sSame := 16, lVersion := 14, tTagMap := 72, tU32s := 181, tFnTag := 168, tFnLess := 183, tAny := 20, gAll := 139, gEach1 := 140, gAll1 := 169, gSet := 166, sortSlice := 168, rUvar := 162, rSpan := 164, rU64 := 165, kUv := 171, kUs := 163, bU16 := 161, bU32 := 170, bU64 := 172, f64b := 0, f64f := 0, tBE := 175, tUvR := 185, vErr := 1, vBE := 0 }
theorem tu {Q : Program} {f : FuncId} {fn : Func} {np nt : Nat} {res : Array ResultVar} {c : Code} (h : Q.funcs[f]? = some fn) (hb : (fn.body.map bare, fn.ntmps, fn.results, fn.name != "runtime.NumGoroutine") = (some c, nt, res, true)) : Text Q f np nt res c := ⟨fn, h, (Prod.mk.inj hb).1, (Prod.mk.inj (Prod.mk.inj hb).2).1, (Prod.mk.inj (Prod.mk.inj (Prod.mk.inj hb).2).2).1, by simpa using (Prod.mk.inj (Prod.mk.inj (Prod.mk.inj hb).2).2).2⟩
theorem tt {Q : Program} {f : FuncId} {fn : Func} {np nt : Nat} {res : Array ResultVar} {c : Code} (h : Q.funcs[f]? = some fn) (hb : fn.body.map bare = some c) (hn : fn.ntmps = nt) (hr : fn.results = res) (hne : fn.name ≠ "runtime.NumGoroutine") : Text Q f np nt res c := ⟨fn, h, hb, hn, hr, hne⟩
theorem kt : KTexts Tryz.prog E where
  wBool := fun h => absurd rfl h
  wI8 := fun _ => (tu Tryz.func99 (by kernel_rfl))
  wI16 := fun _ => (tu Tryz.func88 (by kernel_rfl))
  wU16 := fun _ => (tu Tryz.func136 (by kernel_rfl))
  wI32 := fun _ => (tu Tryz.func108 (by kernel_rfl))
  wU32 := fun _ => (tu Tryz.func153 (by kernel_rfl))
  wI64 := fun _ => (tu Tryz.func93 (by kernel_rfl))
  wU64 := fun _ => (tu Tryz.func137 (by kernel_rfl))
  wUuid := fun _ => (tu Tryz.func107 (by kernel_rfl))
  wStr := fun _ => (tu Tryz.func104 (by kernel_rfl))
  wCStr := fun _ => (tu Tryz.func103 (by kernel_rfl))
  wNStr := fun _ => (tu Tryz.func90 (by kernel_rfl))
  wCNStr := fun _ => (tu Tryz.func89 (by kernel_rfl))
  wBytes := fun _ => (tu Tryz.func92 (by kernel_rfl))
  wCBytes := fun _ => (tu Tryz.func91 (by kernel_rfl))
  wNBytes := fun h => absurd rfl h
  wCNBytes := fun h => absurd rfl h
  wLen := fun _ => (tu Tryz.func106 (by kernel_rfl))
  wCLen := fun _ => (tu Tryz.func105 (by kernel_rfl))
  wNLen := fun _ => (tu Tryz.func112 (by kernel_rfl))
  wCNLen := fun _ => (tu Tryz.func111 (by kernel_rfl))
  uvLen := fun _ => (tu Tryz.func138 (by kernel_rfl))
  len32 := fun _ => (tu Tryz.func167 (by kernel_rfl))
  wUvarint := fun _ => (tu Tryz.func94 (by kernel_rfl))
  tLen := fun _ => (tu Tryz.func95 (by kernel_rfl))
  tEach := fun _ => (tu Tryz.func96 (by kernel_rfl))
  gAll := fun _ => (tu Tryz.func139 (by kernel_rfl))
theorem rt : RTexts Tryz.prog E where
  mixed := (by kernel_rfl)
  row := (by kernel_rfl)
  u8 := (by kernel_rfl)
  int := (by kernel_rfl)
  oBytes := (by kernel_rfl)
  oBool := (by kernel_rfl)
  oU8 := (by kernel_rfl)
  f0 := (by kernel_rfl)
  f1 := (by kernel_rfl)
  i32 := (by kernel_rfl)
  oE := (by kernel_rfl)
  rOk := (tu Tryz.func148 (by kernel_rfl))
  rComplete := (tu Tryz.func135 (by kernel_rfl))
  rI8 := fun _ => ⟨(by kernel_rfl), (tu Tryz.func141 (by kernel_rfl))⟩
  rBool := fun h => absurd rfl h
  rI16 := fun _ => ⟨(by kernel_rfl), (by kernel_rfl), (by kernel_rfl), (tu Tryz.func161 (by kernel_rfl)), (tu Tryz.func126 (by kernel_rfl))⟩
  rU16 := fun h => absurd rfl h
  rI32 := fun _ => ⟨(by kernel_rfl), (by kernel_rfl), (tu Tryz.func170 (by kernel_rfl)), (tu Tryz.func152 (by kernel_rfl))⟩
  rI64 := fun _ => ⟨(by kernel_rfl), (by kernel_rfl), (by kernel_rfl), (tu Tryz.func172 (by kernel_rfl)), (tu Tryz.func165 (by kernel_rfl)), (tu Tryz.func133 (by kernel_rfl))⟩
  rUvar := fun _ => ⟨(by kernel_rfl), (tu Tryz.func171 (by kernel_rfl)), (tu Tryz.func162 (by kernel_rfl))⟩
  rSpan := fun _ => (tu Tryz.func164 (by kernel_rfl))
  rStr := fun _ => ⟨(by kernel_rfl), (by decide), (by decide), (tu Tryz.func145 (by kernel_rfl))⟩
  rCStr := fun _ => ⟨(by kernel_rfl), (by decide), (by decide), (tu Tryz.func144 (by kernel_rfl))⟩
  rNStr := fun _ => ⟨(by kernel_rfl), (by kernel_rfl), (by kernel_rfl), (by decide), (by decide), (tu Tryz.func130 (by kernel_rfl))⟩
  rCNStr := fun _ => ⟨(by kernel_rfl), (by kernel_rfl), (by kernel_rfl), (by decide), (by decide), (tu Tryz.func128 (by kernel_rfl))⟩
  rBytes := fun _ => ⟨(by decide), (by decide), (tu Tryz.func132 (by kernel_rfl))⟩
  rCBytes := fun _ => ⟨(by decide), (by decide), (tu Tryz.func131 (by kernel_rfl))⟩
  rNBytes := fun h => absurd rfl h
  rCNBytes := fun h => absurd rfl h
  rLen := fun _ => ⟨(by decide), (tu Tryz.func147 (by kernel_rfl))⟩
  rCLen := fun _ => ⟨(by decide), (tu Tryz.func146 (by kernel_rfl))⟩
def sl6_ren : Go.Shelf.Ren := ⟨fun | 6 => 168 | 10 => 173 | 11 => 174 | 12 => 175 | 13 => 176 | 14 => 177 | 24 => 167 | 25 => 187 | 26 => 188 | 27 => 189 | 28 => 190 | 29 => 191 | 30 => 192 | 31 => 193 | 32 => 194 | 33 => 195 | 34 => 196 | 35 => 197 | 36 => 198 | 37 => 199 | 38 => 200 | 39 => 201 | n => n, fun | 20 => 20 | 26 => 183 | 35 => 191 | 0 => 0 | 37 => 193 | 3 => 3 | 41 => 154 | 44 => 198 | 49 => 67 | 51 => 83 | 4 => 4 | 54 => 205 | 53 => 204 | 58 => 209 | 5 => 5 | 9 => 9 | 60 => 211 | 64 => 214 | 66 => 216 | 67 => 217 | 17 => 17 | 32 => 188 | 33 => 189 | 82 => 232 | 12 => 12 | 75 => 225 | 76 => 226 | 77 => 227 | 78 => 228 | 79 => 229 | 80 => 230 | n => n, fun | n => n⟩
theorem sl6 : Go.Proofs.LaysGg.n6 Tryz.prog sl6_ren where
  mixed := by kernel_rfl
  f6 := Tryz.func168.trans (congrArg some (by kernel_rfl))
  f10 := Tryz.func173.trans (congrArg some (by kernel_rfl))
  f11 := Tryz.func174.trans (congrArg some (by kernel_rfl))
  f12 := Tryz.func175.trans (congrArg some (by kernel_rfl))
  f13 := Tryz.func176.trans (congrArg some (by kernel_rfl))
  f14 := Tryz.func177.trans (congrArg some (by kernel_rfl))
  f24 := Tryz.func167.trans (congrArg some (by kernel_rfl))
  f25 := Tryz.func187.trans (congrArg some (by kernel_rfl))
  f26 := Tryz.func188.trans (congrArg some (by kernel_rfl))
  f27 := Tryz.func189.trans (congrArg some (by kernel_rfl))
  f28 := Tryz.func190.trans (congrArg some (by kernel_rfl))
  f29 := Tryz.func191.trans (congrArg some (by kernel_rfl))
  f30 := Tryz.func192.trans (congrArg some (by kernel_rfl))
  f31 := Tryz.func193.trans (congrArg some (by kernel_rfl))
  f32 := Tryz.func194.trans (congrArg some (by kernel_rfl))
  f33 := Tryz.func195.trans (congrArg some (by kernel_rfl))
  f34 := Tryz.func196.trans (congrArg some (by kernel_rfl))
  f35 := Tryz.func197.trans (congrArg some (by kernel_rfl))
  f36 := Tryz.func198.trans (congrArg some (by kernel_rfl))
  f37 := Tryz.func199.trans (congrArg some (by kernel_rfl))
  f38 := Tryz.func200.trans (congrArg some (by kernel_rfl))
  f39 := Tryz.func201.trans (congrArg some (by kernel_rfl))
  t0 := Tryz.underlying0
  a0 := Tryz.isAgg0
  z0 := Tryz.sizeOf0
  v0 := Tryz.zeroValue0
  i0 := by kernel_rfl
  t3 := Tryz.underlying3
  a3 := Tryz.isAgg3
  z3 := Tryz.sizeOf3
  v3 := Tryz.zeroValue3
  i3 := by kernel_rfl
  t4 := Tryz.underlying4
  a4 := Tryz.isAgg4
  z4 := Tryz.sizeOf4
  v4 := Tryz.zeroValue4
  i4 := by kernel_rfl
  t5 := Tryz.underlying5
  a5 := Tryz.isAgg5
  z5 := Tryz.sizeOf5
  v5 := Tryz.zeroValue5
  i5 := by kernel_rfl
  t9 := Tryz.underlying9
  a9 := Tryz.isAgg9
  z9 := Tryz.sizeOf9
  v9 := Tryz.zeroValue9
  i9 := by kernel_rfl
  t12 := Tryz.underlying12
  a12 := Tryz.isAgg12
  z12 := Tryz.sizeOf12
  v12 := Tryz.zeroValue12
  i12 := by kernel_rfl
  t17 := Tryz.underlying17
  a17 := Tryz.isAgg17
  z17 := Tryz.sizeOf17
  v17 := Tryz.zeroValue17
  i17 := by kernel_rfl
  t20 := Tryz.underlying20
  a20 := Tryz.isAgg20
  z20 := Tryz.sizeOf20
  v20 := Tryz.zeroValue20
  i20 := by kernel_rfl
  t26 := Tryz.underlying183
  a26 := Tryz.isAgg183
  z26 := Tryz.sizeOf183
  v26 := Tryz.zeroValue183
  i26 := by kernel_rfl
  t32 := Tryz.underlying188
  a32 := Tryz.isAgg188
  z32 := Tryz.sizeOf188
  v32 := Tryz.zeroValue188
  i32 := by kernel_rfl
  t33 := Tryz.underlying189
  a33 := Tryz.isAgg189
  z33 := Tryz.sizeOf189
  v33 := Tryz.zeroValue189
  i33 := by kernel_rfl
  t35 := Tryz.underlying191
  a35 := Tryz.isAgg191
  z35 := Tryz.sizeOf191
  v35 := Tryz.zeroValue191
  i35 := by kernel_rfl
  t37 := Tryz.underlying193
  a37 := Tryz.isAgg193
  z37 := Tryz.sizeOf193
  v37 := Tryz.zeroValue193
  i37 := by kernel_rfl
  t41 := Tryz.underlying154
  a41 := Tryz.isAgg154
  z41 := Tryz.sizeOf154
  v41 := Tryz.zeroValue154
  i41 := by kernel_rfl
  t44 := Tryz.underlying198
  a44 := Tryz.isAgg198
  z44 := Tryz.sizeOf198
  v44 := Tryz.zeroValue198
  i44 := by kernel_rfl
  t49 := Tryz.underlying67
  a49 := Tryz.isAgg67
  z49 := Tryz.sizeOf67
  v49 := Tryz.zeroValue67
  i49 := by kernel_rfl
  t51 := Tryz.underlying83
  a51 := Tryz.isAgg83
  z51 := Tryz.sizeOf83
  v51 := Tryz.zeroValue83
  i51 := by kernel_rfl
  t53 := Tryz.underlying204
  a53 := Tryz.isAgg204
  z53 := Tryz.sizeOf204
  v53 := Tryz.zeroValue204
  i53 := by kernel_rfl
  t54 := Tryz.underlying205
  a54 := Tryz.isAgg205
  z54 := Tryz.sizeOf205
  v54 := Tryz.zeroValue205
  i54 := by kernel_rfl
  t58 := Tryz.underlying209
  a58 := Tryz.isAgg209
  z58 := Tryz.sizeOf209
  v58 := Tryz.zeroValue209
  i58 := by kernel_rfl
  t60 := Tryz.underlying211
  a60 := Tryz.isAgg211
  z60 := Tryz.sizeOf211
  v60 := Tryz.zeroValue211
  i60 := by kernel_rfl
  t64 := Tryz.underlying214
  a64 := Tryz.isAgg214
  z64 := Tryz.sizeOf214
  v64 := Tryz.zeroValue214
  i64 := by kernel_rfl
  t66 := Tryz.underlying216
  a66 := Tryz.isAgg216
  z66 := Tryz.sizeOf216
  v66 := Tryz.zeroValue216
  i66 := by kernel_rfl
  t67 := Tryz.underlying217
  a67 := Tryz.isAgg217
  z67 := Tryz.sizeOf217
  v67 := Tryz.zeroValue217
  i67 := by kernel_rfl
  t75 := Tryz.underlying225
  a75 := Tryz.isAgg225
  z75 := Tryz.sizeOf225
  v75 := Tryz.zeroValue225
  i75 := by kernel_rfl
  t76 := Tryz.underlying226
  a76 := Tryz.isAgg226
  z76 := Tryz.sizeOf226
  v76 := Tryz.zeroValue226
  i76 := by kernel_rfl
  t77 := Tryz.underlying227
  a77 := Tryz.isAgg227
  z77 := Tryz.sizeOf227
  v77 := Tryz.zeroValue227
  i77 := by kernel_rfl
  t78 := Tryz.underlying228
  a78 := Tryz.isAgg228
  z78 := Tryz.sizeOf228
  v78 := Tryz.zeroValue228
  i78 := by kernel_rfl
  t79 := Tryz.underlying229
  a79 := Tryz.isAgg229
  z79 := Tryz.sizeOf229
  v79 := Tryz.zeroValue229
  i79 := by kernel_rfl
  t80 := Tryz.underlying230
  a80 := Tryz.isAgg230
  z80 := Tryz.sizeOf230
  v80 := Tryz.zeroValue230
  i80 := by kernel_rfl
  t82 := Tryz.underlying232
  a82 := Tryz.isAgg232
  z82 := Tryz.sizeOf232
  v82 := Tryz.zeroValue232
  i82 := by kernel_rfl
theorem tT : TagT Tryz.prog E := ⟨by kernel_rfl, by kernel_rfl, by kernel_rfl, by kernel_rfl, by kernel_rfl, by kernel_rfl⟩
theorem sE : SortE Tryz.prog E where
  mixed := by kernel_rfl
  row := by kernel_rfl
  oU32s := by kernel_rfl
  zU32s := by kernel_rfl
  oU32 := by kernel_rfl
  iu := by kernel_rfl
  L := ⟨sl6_ren, sl6, rfl⟩
  enters := Go.Proofs.enters_of Tryz.func168 (by kernel_rfl) rfl
  info := ⟨Tryz.t181, Tryz.t67, by kernel_rfl, by kernel_rfl, by kernel_rfl, by kernel_rfl, by kernel_rfl, by kernel_rfl, by kernel_rfl⟩
  kind := fun _ => by kernel_rfl
  sw2 := ⟨179, by kernel_rfl⟩
  sw6 := ⟨183, true, by kernel_rfl, fun args W => run_callFunc_extern Tryz.func183 (by kernel_rfl) (by kernel_rfl) (by kernel_rfl) (e := Extern.ReflectliteSwapper.swap true) (by kernel_rfl) args W⟩
  less := (tu Tryz.func169 (by kernel_rfl))
theorem tg : TTexts Tryz.prog E := ⟨tT, sE, (tu Tryz.func140 (by kernel_rfl)), by decide⟩
theorem tr : TagsR Tryz.prog E (fun _ => True) := tagsR tT sE.iu rt.int (fun _ => rt.cU (by decide)) (fun _ => rt.cS (by decide)) (fun _ => (tu Tryz.func166 (by kernel_rfl))) (fun _ => (tu Tryz.func134 (by kernel_rfl)))
theorem ew : EnvW Tryz.prog E (fun _ => True) := envWT kt (by kernel_rfl) tg
theorem ur : UuidR Tryz.prog E := uuidR rt.env rt.mixed (by kernel_rfl) (by kernel_rfl) (by kernel_rfl) (fun _ => rt.cS (by decide)) (fun _ => (tu Tryz.func150 (by kernel_rfl)))
theorem ei : EnvI Tryz.prog E := ⟨by kernel_rfl, by kernel_rfl⟩
theorem er : EnvR Tryz.prog E (fun _ => True) := envR rt (by decide) ur tr
theorem rx : EnvRX Tryz.prog E := ⟨by kernel_rfl, by kernel_rfl, by kernel_rfl⟩
theorem lv : Text Tryz.prog E.lVersion 2 10 #[.tmp 4] (c_lVersion E) := (tu Tryz.func14 (by kernel_rfl))
theorem sm : Text Tryz.prog E.sSame 2 26 #[.tmp 4] (c_sSame E) := (tu Tryz.func16 (by kernel_rfl))
theorem i16k : intT Tryz.prog E.tI16 = some .i16 := by kernel_rfl
theorem ik : intT Tryz.prog E.tI = some .i64 := by kernel_rfl
theorem o16 : oneT Tryz.prog E.tI16 = true := by kernel_rfl
theorem ifE : ifaceT Tryz.prog E.tErr = true := by kernel_rfl
theorem lf : Tryz.prog.liftsFinal = false := by kernel_rfl
theorem me : Tryz.prog.mayEnter = true := by kernel_rfl
theorem lo : laidOutB Tryz.prog = true := by kernel_rfl
theorem own : ownKnob Tryz.prog.godebug = none := by kernel_rfl
end Go.Proofs.YtapmfbenmeigpaaGreatDoor
