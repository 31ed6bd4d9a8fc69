/- The numbers of this translation; its functions of kbin have the texts that the contracts are about; its types are laid as they ask. -/
import Derived.Test.YtgmhfkgdapljpaaGreatDoorKb00
import Derived.Test.YtgmhfkgdapljpaaGreatDoorKb01
import Derived.Test.YtgmhfkgdapljpaaGreatDoorKb02
import Derived.Test.YtgmhfkgdapljpaaGreatDoorKb03
import Derived.Test.YtgmhfkgdapljpaaGreatDoorKb04
import Derived.Test.YtgmhfkgdapljpaaGreatDoorKb05
import Derived.Test.YtgmhfkgdapljpaaGreatDoorRows
set_option linter.unusedVariables false
namespace Go.Proofs.YtgmhfkgdapljpaaGreatDoor
open Go Go.Km
def E : Env := { tErr := 51, tI8 := 90, tI16 := 42, tI32 := 21, tI64 := 2, tU8 := 5, tU16 := 27, tW := 65, tU64 := 83, tO := 4, tF64 := 0, tI := 3, tStr := 9, tPStr := 111, tB := 22, tUuid := 69, tTags := 74, tPTags := 161, tRd := 151, tPRd := 159, rI8 := 126, rI16 := 120, rI32 := 119, rI64 := 0, rU16 := 145, rBool := 127, rF64 := 0, rUuid := 121, rStr := 131, rUStr := 129, rCStr := 130, rUCStr := 128, rNStr := 143, rUNStr := 142, rCNStr := 141, rUCNStr := 140, rBytes := 153, rCBytes := 152, rNBytes := 150, rCNBytes := 149, rLen := 123, rCLen := 122, rOk := 124, rComplete := 125, rTags := 132, wI8 := 85, wI16 := 81, wI32 := 80, wI64 := 0, wU16 := 103, wBool := 86, wF64 := 0, wUuid := 82, wStr := 88, wCStr := 87, wNStr := 100, wCNStr := 99, wBytes := 112, wCBytes := 111, wNBytes := 108, wCNBytes := 107, wLen := 84, wCLen := 83, wNLen := 96, wCNLen := 95, wUvarint := 89, tLen := 90, tEach := 91, tUint := 149, tFld := 48, tFlds := 31, tT := 26, tS := 23, tUnk := 67, tK := 24, tMsg := 33, wU32 := 133, wU64 := 0, uvLen := 134, len32 := 160, sHas := 71, sNull := 113, sWhole := 78, sThings := 114, sAt := 73, sUvar := 76, sFixed := 117, sWidth := 118, sCounted := 115, sValue := 116, sField := 72, sUsual := 75, sKnown := 74, sUnknown := 77, sPart := 34, sDefault := 0, sWrite := 11, sKept := 0, sSame := 27, lVersion := 13, tTagMap := 72, tU32s := 174, tFnTag := 163, tFnLess := 176, tAny := 20, gAll := 135, gEach1 := 136, gAll1 := 162, gSet := 159, sortSlice := 161, rUvar := 157, rSpan := 156, rU64 := 0, kUv := 163, kUs := 158, bU16 := 155, bU32 := 154, bU64 := 0, f64b := 0, f64f := 0, tBE := 168, tUvR := 177, vErr := 1, vBE := 0 }
theorem tu {Q : Program} {f : FuncId} {fn : Func} {np nt : Nat} {res : Array ResultVar} {c : Code} (h : Q.funcs[f]? = some fn) (hb : (fn.body.map bare, fn.ntmps, fn.results, fn.name != "runtime.NumGoroutine") = (some c, nt, res, true)) : Text Q f np nt res c := ⟨fn, h, (Prod.mk.inj hb).1, (Prod.mk.inj (Prod.mk.inj hb).2).1, (Prod.mk.inj (Prod.mk.inj (Prod.mk.inj hb).2).2).1, by simpa using (Prod.mk.inj (Prod.mk.inj (Prod.mk.inj hb).2).2).2⟩
theorem tt {Q : Program} {f : FuncId} {fn : Func} {np nt : Nat} {res : Array ResultVar} {c : Code} (h : Q.funcs[f]? = some fn) (hb : fn.body.map bare = some c) (hn : fn.ntmps = nt) (hr : fn.results = res) (hne : fn.name ≠ "runtime.NumGoroutine") : Text Q f np nt res c := ⟨fn, h, hb, hn, hr, hne⟩
theorem kt : KTexts Tryz.prog E where
  wBool := fun _ => (tu Tryz.func86 (by kernel_rfl))
  wI8 := fun _ => (tu Tryz.func85 (by kernel_rfl))
  wI16 := fun _ => (tu Tryz.func81 (by kernel_rfl))
  wU16 := fun _ => (tu Tryz.func103 (by kernel_rfl))
  wI32 := fun _ => (tu Tryz.func80 (by kernel_rfl))
  wU32 := fun _ => (tu Tryz.func133 (by kernel_rfl))
  wI64 := fun h => absurd rfl h
  wU64 := fun h => absurd rfl h
  wUuid := fun _ => (tu Tryz.func82 (by kernel_rfl))
  wStr := fun _ => (tu Tryz.func88 (by kernel_rfl))
  wCStr := fun _ => (tu Tryz.func87 (by kernel_rfl))
  wNStr := fun _ => (tu Tryz.func100 (by kernel_rfl))
  wCNStr := fun _ => (tu Tryz.func99 (by kernel_rfl))
  wBytes := fun _ => (tu Tryz.func112 (by kernel_rfl))
  wCBytes := fun _ => (tu Tryz.func111 (by kernel_rfl))
  wNBytes := fun _ => (tu Tryz.func108 (by kernel_rfl))
  wCNBytes := fun _ => (tu Tryz.func107 (by kernel_rfl))
  wLen := fun _ => (tu Tryz.func84 (by kernel_rfl))
  wCLen := fun _ => (tu Tryz.func83 (by kernel_rfl))
  wNLen := fun _ => (tu Tryz.func96 (by kernel_rfl))
  wCNLen := fun _ => (tu Tryz.func95 (by kernel_rfl))
  uvLen := fun _ => (tu Tryz.func134 (by kernel_rfl))
  len32 := fun _ => (tu Tryz.func160 (by kernel_rfl))
  wUvarint := fun _ => (tu Tryz.func89 (by kernel_rfl))
  tLen := fun _ => (tu Tryz.func90 (by kernel_rfl))
  tEach := fun _ => (tu Tryz.func91 (by kernel_rfl))
  gAll := fun _ => (tu Tryz.func135 (by kernel_rfl))
theorem rt : RTexts Tryz.prog E where
  mixed := (by kernel_rfl)
  row := (by kernel_rfl)
  u8 := (by kernel_rfl)
  int := (by kernel_rfl)
  oBytes := (by kernel_rfl)
  oBool := (by kernel_rfl)
  oU8 := (by kernel_rfl)
  f0 := (by kernel_rfl)
  f1 := (by kernel_rfl)
  i32 := (by kernel_rfl)
  oE := (by kernel_rfl)
  rOk := (tu Tryz.func124 (by kernel_rfl))
  rComplete := (tu Tryz.func125 (by kernel_rfl))
  rI8 := fun _ => ⟨(by kernel_rfl), (tu Tryz.func126 (by kernel_rfl))⟩
  rBool := fun _ => (tu Tryz.func127 (by kernel_rfl))
  rI16 := fun _ => ⟨(by kernel_rfl), (by kernel_rfl), (by kernel_rfl), (tu Tryz.func155 (by kernel_rfl)), (tu Tryz.func120 (by kernel_rfl))⟩
  rU16 := fun _ => ⟨(by kernel_rfl), (by kernel_rfl), (tu Tryz.func155 (by kernel_rfl)), (tu Tryz.func145 (by kernel_rfl))⟩
  rI32 := fun _ => ⟨(by kernel_rfl), (by kernel_rfl), (tu Tryz.func154 (by kernel_rfl)), (tu Tryz.func119 (by kernel_rfl))⟩
  rI64 := fun h => absurd rfl h
  rUvar := fun _ => ⟨(by kernel_rfl), (tu Tryz.func163 (by kernel_rfl)), (tu Tryz.func157 (by kernel_rfl))⟩
  rSpan := fun _ => (tu Tryz.func156 (by kernel_rfl))
  rStr := fun _ => ⟨(by kernel_rfl), (by decide), (by decide), (tu Tryz.func131 (by kernel_rfl))⟩
  rCStr := fun _ => ⟨(by kernel_rfl), (by decide), (by decide), (tu Tryz.func130 (by kernel_rfl))⟩
  rNStr := fun _ => ⟨(by kernel_rfl), (by kernel_rfl), (by kernel_rfl), (by decide), (by decide), (tu Tryz.func143 (by kernel_rfl))⟩
  rCNStr := fun _ => ⟨(by kernel_rfl), (by kernel_rfl), (by kernel_rfl), (by decide), (by decide), (tu Tryz.func141 (by kernel_rfl))⟩
  rBytes := fun _ => ⟨(by decide), (by decide), (tu Tryz.func153 (by kernel_rfl))⟩
  rCBytes := fun _ => ⟨(by decide), (by decide), (tu Tryz.func152 (by kernel_rfl))⟩
  rNBytes := fun _ => ⟨(by decide), (by decide), (tu Tryz.func150 (by kernel_rfl))⟩
  rCNBytes := fun _ => ⟨(by decide), (by decide), (tu Tryz.func149 (by kernel_rfl))⟩
  rLen := fun _ => ⟨(by decide), (tu Tryz.func123 (by kernel_rfl))⟩
  rCLen := fun _ => ⟨(by decide), (tu Tryz.func122 (by kernel_rfl))⟩
def sl6_ren : Go.Shelf.Ren := ⟨fun | 6 => 161 | 10 => 164 | 11 => 165 | 12 => 166 | 13 => 167 | 14 => 168 | 24 => 160 | 25 => 178 | 26 => 179 | 27 => 180 | 28 => 181 | 29 => 182 | 30 => 183 | 31 => 184 | 32 => 185 | 33 => 186 | 34 => 187 | 35 => 188 | 36 => 189 | 37 => 190 | 38 => 191 | 39 => 192 | n => n, fun | 20 => 20 | 26 => 176 | 35 => 182 | 0 => 0 | 37 => 184 | 3 => 3 | 41 => 149 | 44 => 189 | 49 => 65 | 51 => 83 | 4 => 4 | 54 => 196 | 53 => 195 | 58 => 200 | 5 => 5 | 9 => 9 | 60 => 202 | 64 => 206 | 66 => 208 | 67 => 209 | 17 => 17 | 32 => 179 | 33 => 180 | 82 => 224 | 12 => 12 | 75 => 217 | 76 => 218 | 77 => 219 | 78 => 220 | 79 => 221 | 80 => 222 | n => n, fun | n => n⟩
theorem sl6 : Go.Proofs.LaysGg.n6 Tryz.prog sl6_ren where
  mixed := by kernel_rfl
  f6 := Tryz.func161.trans (congrArg some (by kernel_rfl))
  f10 := Tryz.func164.trans (congrArg some (by kernel_rfl))
  f11 := Tryz.func165.trans (congrArg some (by kernel_rfl))
  f12 := Tryz.func166.trans (congrArg some (by kernel_rfl))
  f13 := Tryz.func167.trans (congrArg some (by kernel_rfl))
  f14 := Tryz.func168.trans (congrArg some (by kernel_rfl))
  f24 := Tryz.func160.trans (congrArg some (by kernel_rfl))
  f25 := Tryz.func178.trans (congrArg some (by kernel_rfl))
  f26 := Tryz.func179.trans (congrArg some (by kernel_rfl))
  f27 := Tryz.func180.trans (congrArg some (by kernel_rfl))
  f28 := Tryz.func181.trans (congrArg some (by kernel_rfl))
  f29 := Tryz.func182.trans (congrArg some (by kernel_rfl))
  f30 := Tryz.func183.trans (congrArg some (by kernel_rfl))
  f31 := Tryz.func184.trans (congrArg some (by kernel_rfl))
  f32 := Tryz.func185.trans (congrArg some (by kernel_rfl))
  f33 := Tryz.func186.trans (congrArg some (by kernel_rfl))
  f34 := Tryz.func187.trans (congrArg some (by kernel_rfl))
  f35 := Tryz.func188.trans (congrArg some (by kernel_rfl))
  f36 := Tryz.func189.trans (congrArg some (by kernel_rfl))
  f37 := Tryz.func190.trans (congrArg some (by kernel_rfl))
  f38 := Tryz.func191.trans (congrArg some (by kernel_rfl))
  f39 := Tryz.func192.trans (congrArg some (by kernel_rfl))
  t0 := Tryz.underlying0
  a0 := Tryz.isAgg0
  z0 := Tryz.sizeOf0
  v0 := Tryz.zeroValue0
  i0 := by kernel_rfl
  t3 := Tryz.underlying3
  a3 := Tryz.isAgg3
  z3 := Tryz.sizeOf3
  v3 := Tryz.zeroValue3
  i3 := by kernel_rfl
  t4 := Tryz.underlying4
  a4 := Tryz.isAgg4
  z4 := Tryz.sizeOf4
  v4 := Tryz.zeroValue4
  i4 := by kernel_rfl
  t5 := Tryz.underlying5
  a5 := Tryz.isAgg5
  z5 := Tryz.sizeOf5
  v5 := Tryz.zeroValue5
  i5 := by kernel_rfl
  t9 := Tryz.underlying9
  a9 := Tryz.isAgg9
  z9 := Tryz.sizeOf9
  v9 := Tryz.zeroValue9
  i9 := by kernel_rfl
  t12 := Tryz.underlying12
  a12 := Tryz.isAgg12
  z12 := Tryz.sizeOf12
  v12 := Tryz.zeroValue12
  i12 := by kernel_rfl
  t17 := Tryz.underlying17
  a17 := Tryz.isAgg17
  z17 := Tryz.sizeOf17
  v17 := Tryz.zeroValue17
  i17 := by kernel_rfl
  t20 := Tryz.underlying20
  a20 := Tryz.isAgg20
  z20 := Tryz.sizeOf20
  v20 := Tryz.zeroValue20
  i20 := by kernel_rfl
  t26 := Tryz.underlying176
  a26 := Tryz.isAgg176
  z26 := Tryz.sizeOf176
  v26 := Tryz.zeroValue176
  i26 := by kernel_rfl
  t32 := Tryz.underlying179
  a32 := Tryz.isAgg179
  z32 := Tryz.sizeOf179
  v32 := Tryz.zeroValue179
  i32 := by kernel_rfl
  t33 := Tryz.underlying180
  a33 := Tryz.isAgg180
  z33 := Tryz.sizeOf180
  v33 := Tryz.zeroValue180
  i33 := by kernel_rfl
  t35 := Tryz.underlying182
  a35 := Tryz.isAgg182
  z35 := Tryz.sizeOf182
  v35 := Tryz.zeroValue182
  i35 := by kernel_rfl
  t37 := Tryz.underlying184
  a37 := Tryz.isAgg184
  z37 := Tryz.sizeOf184
  v37 := Tryz.zeroValue184
  i37 := by kernel_rfl
  t41 := Tryz.underlying149
  a41 := Tryz.isAgg149
  z41 := Tryz.sizeOf149
  v41 := Tryz.zeroValue149
  i41 := by kernel_rfl
  t44 := Tryz.underlying189
  a44 := Tryz.isAgg189
  z44 := Tryz.sizeOf189
  v44 := Tryz.zeroValue189
  i44 := by kernel_rfl
  t49 := Tryz.underlying65
  a49 := Tryz.isAgg65
  z49 := Tryz.sizeOf65
  v49 := Tryz.zeroValue65
  i49 := by kernel_rfl
  t51 := Tryz.underlying83
  a51 := Tryz.isAgg83
  z51 := Tryz.sizeOf83
  v51 := Tryz.zeroValue83
  i51 := by kernel_rfl
  t53 := Tryz.underlying195
  a53 := Tryz.isAgg195
  z53 := Tryz.sizeOf195
  v53 := Tryz.zeroValue195
  i53 := by kernel_rfl
  t54 := Tryz.underlying196
  a54 := Tryz.isAgg196
  z54 := Tryz.sizeOf196
  v54 := Tryz.zeroValue196
  i54 := by kernel_rfl
  t58 := Tryz.underlying200
  a58 := Tryz.isAgg200
  z58 := Tryz.sizeOf200
  v58 := Tryz.zeroValue200
  i58 := by kernel_rfl
  t60 := Tryz.underlying202
  a60 := Tryz.isAgg202
  z60 := Tryz.sizeOf202
  v60 := Tryz.zeroValue202
  i60 := by kernel_rfl
  t64 := Tryz.underlying206
  a64 := Tryz.isAgg206
  z64 := Tryz.sizeOf206
  v64 := Tryz.zeroValue206
  i64 := by kernel_rfl
  t66 := Tryz.underlying208
  a66 := Tryz.isAgg208
  z66 := Tryz.sizeOf208
  v66 := Tryz.zeroValue208
  i66 := by kernel_rfl
  t67 := Tryz.underlying209
  a67 := Tryz.isAgg209
  z67 := Tryz.sizeOf209
  v67 := Tryz.zeroValue209
  i67 := by kernel_rfl
  t75 := Tryz.underlying217
  a75 := Tryz.isAgg217
  z75 := Tryz.sizeOf217
  v75 := Tryz.zeroValue217
  i75 := by kernel_rfl
  t76 := Tryz.underlying218
  a76 := Tryz.isAgg218
  z76 := Tryz.sizeOf218
  v76 := Tryz.zeroValue218
  i76 := by kernel_rfl
  t77 := Tryz.underlying219
  a77 := Tryz.isAgg219
  z77 := Tryz.sizeOf219
  v77 := Tryz.zeroValue219
  i77 := by kernel_rfl
  t78 := Tryz.underlying220
  a78 := Tryz.isAgg220
  z78 := Tryz.sizeOf220
  v78 := Tryz.zeroValue220
  i78 := by kernel_rfl
  t79 := Tryz.underlying221
  a79 := Tryz.isAgg221
  z79 := Tryz.sizeOf221
  v79 := Tryz.zeroValue221
  i79 := by kernel_rfl
  t80 := Tryz.underlying222
  a80 := Tryz.isAgg222
  z80 := Tryz.sizeOf222
  v80 := Tryz.zeroValue222
  i80 := by kernel_rfl
  t82 := Tryz.underlying224
  a82 := Tryz.isAgg224
  z82 := Tryz.sizeOf224
  v82 := Tryz.zeroValue224
  i82 := by kernel_rfl
theorem tT : TagT Tryz.prog E := ⟨by kernel_rfl, by kernel_rfl, by kernel_rfl, by kernel_rfl, by kernel_rfl, by kernel_rfl⟩
theorem sE : SortE Tryz.prog E where
  mixed := by kernel_rfl
  row := by kernel_rfl
  oU32s := by kernel_rfl
  zU32s := by kernel_rfl
  oU32 := by kernel_rfl
  iu := by kernel_rfl
  L := ⟨sl6_ren, sl6, rfl⟩
  enters := Go.Proofs.enters_of Tryz.func161 (by kernel_rfl) rfl
  info := ⟨Tryz.t174, Tryz.t65, by kernel_rfl, by kernel_rfl, by kernel_rfl, by kernel_rfl, by kernel_rfl, by kernel_rfl, by kernel_rfl⟩
  kind := fun _ => by kernel_rfl
  sw2 := ⟨170, by kernel_rfl⟩
  sw6 := ⟨174, true, by kernel_rfl, fun args W => run_callFunc_extern Tryz.func174 (by kernel_rfl) (by kernel_rfl) (by kernel_rfl) (e := Extern.ReflectliteSwapper.swap true) (by kernel_rfl) args W⟩
  less := (tu Tryz.func162 (by kernel_rfl))
theorem tg : TTexts Tryz.prog E := ⟨tT, sE, (tu Tryz.func136 (by kernel_rfl)), by decide⟩
theorem tr : TagsR Tryz.prog E (fun _ => True) := tagsR tT sE.iu rt.int (fun _ => rt.cU (by decide)) (fun _ => rt.cS (by decide)) (fun _ => (tu Tryz.func159 (by kernel_rfl))) (fun _ => (tu Tryz.func132 (by kernel_rfl)))
theorem ew : EnvW Tryz.prog E (fun _ => True) := envWT kt (by kernel_rfl) tg
theorem ur : UuidR Tryz.prog E := uuidR rt.env rt.mixed (by kernel_rfl) (by kernel_rfl) (by kernel_rfl) (fun _ => rt.cS (by decide)) (fun _ => (tu Tryz.func121 (by kernel_rfl)))
theorem ei : EnvI Tryz.prog E := ⟨by kernel_rfl, by kernel_rfl⟩
theorem er : EnvR Tryz.prog E (fun _ => True) := envR rt (by decide) ur tr
theorem rx : EnvRX Tryz.prog E := ⟨by kernel_rfl, by kernel_rfl, by kernel_rfl⟩
theorem lv : Text Tryz.prog E.lVersion 2 10 #[.tmp 4] (c_lVersion E) := (tu Tryz.func13 (by kernel_rfl))
theorem sm : Text Tryz.prog E.sSame 2 26 #[.tmp 4] (c_sSame E) := (tu Tryz.func27 (by kernel_rfl))
theorem i16k : intT Tryz.prog E.tI16 = some .i16 := by kernel_rfl
theorem ik : intT Tryz.prog E.tI = some .i64 := by kernel_rfl
theorem o16 : oneT Tryz.prog E.tI16 = true := by kernel_rfl
theorem ifE : ifaceT Tryz.prog E.tErr = true := by kernel_rfl
theorem lf : Tryz.prog.liftsFinal = false := by kernel_rfl
theorem me : Tryz.prog.mayEnter = true := by kernel_rfl
theorem lo : laidOutB Tryz.prog = true := by kernel_rfl
theorem own : ownKnob Tryz.prog.godebug = none := by kernel_rfl
end Go.Proofs.YtgmhfkgdapljpaaGreatDoor
