/- The numbers of this translation; its functions of kbin have the texts that the contracts are about; its types are laid as they ask. -/
import Derived.Test.YtlcamogfjoneiaaGreatDoorKb00
import Derived.Test.YtlcamogfjoneiaaGreatDoorKb01
import Derived.Test.YtlcamogfjoneiaaGreatDoorKb02
import Derived.Test.YtlcamogfjoneiaaGreatDoorKb03
import Derived.Test.YtlcamogfjoneiaaGreatDoorKb04
import Derived.Test.YtlcamogfjoneiaaGreatDoorKb05
import Derived.Test.YtlcamogfjoneiaaGreatDoorRows
set_option linter.unusedVariables false
namespace Go.Proofs.YtlcamogfjoneiaaGreatDoor
open Go Go.Km
def E : Env := { tErr := 50, tI8 := 0, tI16 := 40, tI32 := 21, tI64 := 2, tU8 := 5, tU16 := 96, tW := 53, tU64 := 70, tO := 4, tF64 := 0, tI := 3, tStr := 9, tPStr := 0, tB := 22, tUuid := 0, tTags := 61, tPTags := 124, tRd := 108, tPRd := 115, rI8 := 0, rI16 := 57, rI32 := 56, rI64 := 69, rU16 := 77, rBool := 0, rF64 := 0, rUuid := 0, rStr := 66, rUStr := 64, rCStr := 65, rUCStr := 63, rNStr := 0, rUNStr := 0, rCNStr := 0, rUCNStr := 0, rBytes := 72, rCBytes := 71, rNBytes := 0, rCNBytes := 0, rLen := 59, rCLen := 58, rOk := 60, rComplete := 61, rTags := 70, wI8 := 0, wI16 := 33, wI32 := 32, wI64 := 38, wU16 := 47, wBool := 0, wF64 := 0, wUuid := 0, wStr := 37, wCStr := 36, wNStr := 0, wCNStr := 0, wBytes := 43, wCBytes := 42, wNBytes := 0, wCNBytes := 0, wLen := 35, wCLen := 34, wNLen := 0, wCNLen := 0, wUvarint := 39, tLen := 40, tEach := 41, tUint := 106, tFld := 46, tFlds := 30, tT := 26, tS := 23, tUnk := 55, tK := 24, tMsg := 32, wU32 := 78, wU64 := 79, uvLen := 80, len32 := 89, sHas := 22, sNull := 48, sWhole := 29, sThings := 49, sAt := 24, sUvar := 27, sFixed := 52, sWidth := 53, sCounted := 50, sValue := 51, sField := 23, sUsual := 26, sKnown := 25, sUnknown := 28, sPart := 14, sDefault := 0, sWrite := 6, sKept := 0, sSame := 10, lVersion := 8, tTagMap := 59, tU32s := 92, tFnTag := 118, tFnLess := 136, tAny := 20, gAll := 81, gEach1 := 82, gAll1 := 91, gSet := 74, sortSlice := 90, rUvar := 73, rSpan := 75, rU64 := 87, kUv := 88, kUs := 86, bU16 := 85, bU32 := 84, bU64 := 92, f64b := 0, f64f := 0, tBE := 128, tUvR := 133, zNew := 45, zSame := 44, zTags := 83, zDf := 46, tZ := 85, tLk := 35, vErr := 1, vBE := 0 }
theorem tu {Q : Program} {f : FuncId} {fn : Func} {np nt : Nat} {res : Array ResultVar} {c : Code} (h : Q.funcs[f]? = some fn) (hb : (fn.body.map bare, fn.ntmps, fn.results, fn.name != "runtime.NumGoroutine") = (some c, nt, res, true) := by kernel_rfl) : Text Q f np nt res c := ⟨fn, h, (Prod.mk.inj hb).1, (Prod.mk.inj (Prod.mk.inj hb).2).1, (Prod.mk.inj (Prod.mk.inj (Prod.mk.inj hb).2).2).1, by simpa using (Prod.mk.inj (Prod.mk.inj (Prod.mk.inj hb).2).2).2⟩
theorem tt {Q : Program} {f : FuncId} {fn : Func} {np nt : Nat} {res : Array ResultVar} {c : Code} (h : Q.funcs[f]? = some fn) (hb : fn.body.map bare = some c) (hn : fn.ntmps = nt) (hr : fn.results = res) (hne : fn.name ≠ "runtime.NumGoroutine") : Text Q f np nt res c := ⟨fn, h, hb, hn, hr, hne⟩
theorem kt : KTexts Tryz.prog E where
  wBool := fun h => absurd rfl h
  wI8 := fun h => absurd rfl h
  wI16 := fun _ => (tu Tryz.func33)
  wU16 := fun _ => (tu Tryz.func47)
  wI32 := fun _ => (tu Tryz.func32)
  wU32 := fun _ => (tu Tryz.func78)
  wI64 := fun _ => (tu Tryz.func38)
  wU64 := fun _ => (tu Tryz.func79)
  wUuid := fun h => absurd rfl h
  wStr := fun _ => (tu Tryz.func37)
  wCStr := fun _ => (tu Tryz.func36)
  wNStr := fun h => absurd rfl h
  wCNStr := fun h => absurd rfl h
  wBytes := fun _ => (tu Tryz.func43)
  wCBytes := fun _ => (tu Tryz.func42)
  wNBytes := fun h => absurd rfl h
  wCNBytes := fun h => absurd rfl h
  wLen := fun _ => (tu Tryz.func35)
  wCLen := fun _ => (tu Tryz.func34)
  wNLen := fun h => absurd rfl h
  wCNLen := fun h => absurd rfl h
  uvLen := fun _ => (tu Tryz.func80)
  len32 := fun _ => (tu Tryz.func89)
  wUvarint := fun _ => (tu Tryz.func39)
  tLen := fun _ => (tu Tryz.func40)
  tEach := fun _ => (tu Tryz.func41)
  gAll := fun _ => (tu Tryz.func81)
theorem rt : RTexts Tryz.prog E where
  mixed := (by kernel_rfl)
  row := (by kernel_rfl)
  u8 := (by kernel_rfl)
  int := (by kernel_rfl)
  oBytes := (by kernel_rfl)
  oBool := (by kernel_rfl)
  oU8 := (by kernel_rfl)
  f0 := (by kernel_rfl)
  f1 := (by kernel_rfl)
  i32 := (by kernel_rfl)
  oE := (by kernel_rfl)
  rOk := (tu Tryz.func60)
  rComplete := (tu Tryz.func61)
  rI8 := fun h => absurd rfl h
  rBool := fun h => absurd rfl h
  rI16 := fun _ => ⟨(by kernel_rfl), (by kernel_rfl), (by kernel_rfl), (tu Tryz.func85), (tu Tryz.func57)⟩
  rU16 := fun _ => ⟨(by kernel_rfl), (by kernel_rfl), (tu Tryz.func85), (tu Tryz.func77)⟩
  rI32 := fun _ => ⟨(by kernel_rfl), (by kernel_rfl), (tu Tryz.func84), (tu Tryz.func56)⟩
  rI64 := fun _ => ⟨(by kernel_rfl), (by kernel_rfl), (by kernel_rfl), (tu Tryz.func92), (tu Tryz.func87), (tu Tryz.func69)⟩
  rUvar := fun _ => ⟨(by kernel_rfl), (tu Tryz.func88), (tu Tryz.func73)⟩
  rSpan := fun _ => (tu Tryz.func75)
  rStr := fun _ => ⟨(by kernel_rfl), (by decide), (by decide), (tu Tryz.func66)⟩
  rCStr := fun _ => ⟨(by kernel_rfl), (by decide), (by decide), (tu Tryz.func65)⟩
  rNStr := fun h => absurd rfl h
  rCNStr := fun h => absurd rfl h
  rBytes := fun _ => ⟨(by decide), (by decide), (tu Tryz.func72)⟩
  rCBytes := fun _ => ⟨(by decide), (by decide), (tu Tryz.func71)⟩
  rNBytes := fun h => absurd rfl h
  rCNBytes := fun h => absurd rfl h
  rLen := fun _ => ⟨(by decide), (tu Tryz.func59)⟩
  rCLen := fun _ => ⟨(by decide), (tu Tryz.func58)⟩
def sl6_ren : Go.Shelf.Ren := ⟨fun | 6 => 90 | 10 => 93 | 11 => 94 | 12 => 95 | 13 => 96 | 14 => 97 | 24 => 89 | 25 => 107 | 26 => 108 | 27 => 109 | 28 => 110 | 29 => 111 | 30 => 112 | 31 => 113 | 32 => 114 | 33 => 115 | 34 => 116 | 35 => 117 | 36 => 118 | 37 => 119 | 38 => 120 | 39 => 121 | n => n, fun | 20 => 20 | 26 => 136 | 35 => 141 | 0 => 0 | 37 => 143 | 3 => 3 | 41 => 106 | 44 => 148 | 49 => 53 | 51 => 70 | 4 => 4 | 54 => 155 | 53 => 154 | 58 => 159 | 5 => 5 | 9 => 9 | 60 => 161 | 64 => 164 | 66 => 166 | 67 => 167 | 17 => 17 | 32 => 138 | 33 => 139 | 82 => 182 | 12 => 12 | 75 => 175 | 76 => 176 | 77 => 177 | 78 => 178 | 79 => 179 | 80 => 180 | n => n, fun | n => n⟩
theorem sl6 : Go.Proofs.LaysGg.n6 Tryz.prog sl6_ren where
  mixed := by kernel_rfl
  f6 := Tryz.func90.trans (congrArg some (by kernel_rfl))
  f10 := Tryz.func93.trans (congrArg some (by kernel_rfl))
  f11 := Tryz.func94.trans (congrArg some (by kernel_rfl))
  f12 := Tryz.func95.trans (congrArg some (by kernel_rfl))
  f13 := Tryz.func96.trans (congrArg some (by kernel_rfl))
  f14 := Tryz.func97.trans (congrArg some (by kernel_rfl))
  f24 := Tryz.func89.trans (congrArg some (by kernel_rfl))
  f25 := Tryz.func107.trans (congrArg some (by kernel_rfl))
  f26 := Tryz.func108.trans (congrArg some (by kernel_rfl))
  f27 := Tryz.func109.trans (congrArg some (by kernel_rfl))
  f28 := Tryz.func110.trans (congrArg some (by kernel_rfl))
  f29 := Tryz.func111.trans (congrArg some (by kernel_rfl))
  f30 := Tryz.func112.trans (congrArg some (by kernel_rfl))
  f31 := Tryz.func113.trans (congrArg some (by kernel_rfl))
  f32 := Tryz.func114.trans (congrArg some (by kernel_rfl))
  f33 := Tryz.func115.trans (congrArg some (by kernel_rfl))
  f34 := Tryz.func116.trans (congrArg some (by kernel_rfl))
  f35 := Tryz.func117.trans (congrArg some (by kernel_rfl))
  f36 := Tryz.func118.trans (congrArg some (by kernel_rfl))
  f37 := Tryz.func119.trans (congrArg some (by kernel_rfl))
  f38 := Tryz.func120.trans (congrArg some (by kernel_rfl))
  f39 := Tryz.func121.trans (congrArg some (by kernel_rfl))
  t0 := Tryz.underlying0
  a0 := Tryz.isAgg0
  z0 := Tryz.sizeOf0
  v0 := Tryz.zeroValue0
  i0 := by kernel_rfl
  t3 := Tryz.underlying3
  a3 := Tryz.isAgg3
  z3 := Tryz.sizeOf3
  v3 := Tryz.zeroValue3
  i3 := by kernel_rfl
  t4 := Tryz.underlying4
  a4 := Tryz.isAgg4
  z4 := Tryz.sizeOf4
  v4 := Tryz.zeroValue4
  i4 := by kernel_rfl
  t5 := Tryz.underlying5
  a5 := Tryz.isAgg5
  z5 := Tryz.sizeOf5
  v5 := Tryz.zeroValue5
  i5 := by kernel_rfl
  t9 := Tryz.underlying9
  a9 := Tryz.isAgg9
  z9 := Tryz.sizeOf9
  v9 := Tryz.zeroValue9
  i9 := by kernel_rfl
  t12 := Tryz.underlying12
  a12 := Tryz.isAgg12
  z12 := Tryz.sizeOf12
  v12 := Tryz.zeroValue12
  i12 := by kernel_rfl
  t17 := Tryz.underlying17
  a17 := Tryz.isAgg17
  z17 := Tryz.sizeOf17
  v17 := Tryz.zeroValue17
  i17 := by kernel_rfl
  t20 := Tryz.underlying20
  a20 := Tryz.isAgg20
  z20 := Tryz.sizeOf20
  v20 := Tryz.zeroValue20
  i20 := by kernel_rfl
  t26 := Tryz.underlying136
  a26 := Tryz.isAgg136
  z26 := Tryz.sizeOf136
  v26 := Tryz.zeroValue136
  i26 := by kernel_rfl
  t32 := Tryz.underlying138
  a32 := Tryz.isAgg138
  z32 := Tryz.sizeOf138
  v32 := Tryz.zeroValue138
  i32 := by kernel_rfl
  t33 := Tryz.underlying139
  a33 := Tryz.isAgg139
  z33 := Tryz.sizeOf139
  v33 := Tryz.zeroValue139
  i33 := by kernel_rfl
  t35 := Tryz.underlying141
  a35 := Tryz.isAgg141
  z35 := Tryz.sizeOf141
  v35 := Tryz.zeroValue141
  i35 := by kernel_rfl
  t37 := Tryz.underlying143
  a37 := Tryz.isAgg143
  z37 := Tryz.sizeOf143
  v37 := Tryz.zeroValue143
  i37 := by kernel_rfl
  t41 := Tryz.underlying106
  a41 := Tryz.isAgg106
  z41 := Tryz.sizeOf106
  v41 := Tryz.zeroValue106
  i41 := by kernel_rfl
  t44 := Tryz.underlying148
  a44 := Tryz.isAgg148
  z44 := Tryz.sizeOf148
  v44 := Tryz.zeroValue148
  i44 := by kernel_rfl
  t49 := Tryz.underlying53
  a49 := Tryz.isAgg53
  z49 := Tryz.sizeOf53
  v49 := Tryz.zeroValue53
  i49 := by kernel_rfl
  t51 := Tryz.underlying70
  a51 := Tryz.isAgg70
  z51 := Tryz.sizeOf70
  v51 := Tryz.zeroValue70
  i51 := by kernel_rfl
  t53 := Tryz.underlying154
  a53 := Tryz.isAgg154
  z53 := Tryz.sizeOf154
  v53 := Tryz.zeroValue154
  i53 := by kernel_rfl
  t54 := Tryz.underlying155
  a54 := Tryz.isAgg155
  z54 := Tryz.sizeOf155
  v54 := Tryz.zeroValue155
  i54 := by kernel_rfl
  t58 := Tryz.underlying159
  a58 := Tryz.isAgg159
  z58 := Tryz.sizeOf159
  v58 := Tryz.zeroValue159
  i58 := by kernel_rfl
  t60 := Tryz.underlying161
  a60 := Tryz.isAgg161
  z60 := Tryz.sizeOf161
  v60 := Tryz.zeroValue161
  i60 := by kernel_rfl
  t64 := Tryz.underlying164
  a64 := Tryz.isAgg164
  z64 := Tryz.sizeOf164
  v64 := Tryz.zeroValue164
  i64 := by kernel_rfl
  t66 := Tryz.underlying166
  a66 := Tryz.isAgg166
  z66 := Tryz.sizeOf166
  v66 := Tryz.zeroValue166
  i66 := by kernel_rfl
  t67 := Tryz.underlying167
  a67 := Tryz.isAgg167
  z67 := Tryz.sizeOf167
  v67 := Tryz.zeroValue167
  i67 := by kernel_rfl
  t75 := Tryz.underlying175
  a75 := Tryz.isAgg175
  z75 := Tryz.sizeOf175
  v75 := Tryz.zeroValue175
  i75 := by kernel_rfl
  t76 := Tryz.underlying176
  a76 := Tryz.isAgg176
  z76 := Tryz.sizeOf176
  v76 := Tryz.zeroValue176
  i76 := by kernel_rfl
  t77 := Tryz.underlying177
  a77 := Tryz.isAgg177
  z77 := Tryz.sizeOf177
  v77 := Tryz.zeroValue177
  i77 := by kernel_rfl
  t78 := Tryz.underlying178
  a78 := Tryz.isAgg178
  z78 := Tryz.sizeOf178
  v78 := Tryz.zeroValue178
  i78 := by kernel_rfl
  t79 := Tryz.underlying179
  a79 := Tryz.isAgg179
  z79 := Tryz.sizeOf179
  v79 := Tryz.zeroValue179
  i79 := by kernel_rfl
  t80 := Tryz.underlying180
  a80 := Tryz.isAgg180
  z80 := Tryz.sizeOf180
  v80 := Tryz.zeroValue180
  i80 := by kernel_rfl
  t82 := Tryz.underlying182
  a82 := Tryz.isAgg182
  z82 := Tryz.sizeOf182
  v82 := Tryz.zeroValue182
  i82 := by kernel_rfl
theorem tT : TagT Tryz.prog E := ⟨by kernel_rfl, by kernel_rfl, by kernel_rfl, by kernel_rfl, by kernel_rfl, by kernel_rfl⟩
theorem sE : SortE Tryz.prog E where
  mixed := by kernel_rfl
  row := by kernel_rfl
  oU32s := by kernel_rfl
  zU32s := by kernel_rfl
  oU32 := by kernel_rfl
  iu := by kernel_rfl
  L := ⟨sl6_ren, sl6, rfl⟩
  enters := Go.Proofs.enters_of Tryz.func90 (by kernel_rfl) rfl
  info := ⟨Tryz.t92, Tryz.t53, by kernel_rfl, by kernel_rfl, by kernel_rfl, by kernel_rfl, by kernel_rfl, by kernel_rfl, by kernel_rfl⟩
  kind := fun _ => by kernel_rfl
  sw2 := ⟨99, by kernel_rfl⟩
  sw6 := ⟨103, true, by kernel_rfl, fun args W => run_callFunc_extern Tryz.func103 (by kernel_rfl) (by kernel_rfl) (by kernel_rfl) (e := Extern.ReflectliteSwapper.swap true) (by kernel_rfl) args W⟩
  less := (tu Tryz.func91)
theorem tg : TTexts Tryz.prog E := ⟨tT, sE, (tu Tryz.func82), by decide⟩
theorem tr : TagsR Tryz.prog E (fun _ => True) := tagsR tT sE.iu rt.int (fun _ => rt.cU (by decide)) (fun _ => rt.cS (by decide)) (fun _ => (tu Tryz.func74)) (fun _ => (tu Tryz.func70))
theorem ew : EnvW Tryz.prog E (fun _ => True) := envWT kt (by kernel_rfl) tg
theorem ur : UuidR Tryz.prog E := fun h => absurd rfl h
theorem zt : ZTexts Tryz.prog E := ⟨(tu Tryz.func45), (tu Tryz.func44), (tu Tryz.func83), (tu Tryz.func46), by kernel_rfl, by kernel_rfl, by kernel_rfl, by kernel_rfl, by kernel_rfl, by kernel_rfl, by kernel_rfl⟩
theorem ei : EnvI Tryz.prog E := ⟨by kernel_rfl, by kernel_rfl, by kernel_rfl, by kernel_rfl, fun _ w => k_zNew zt w, fun _ m n q w => k_zSame tT zt m n q w⟩
theorem er : EnvR Tryz.prog E (fun _ => True) := envR rt (by decide) ur tr
theorem rx : EnvRX Tryz.prog E := ⟨by kernel_rfl, by kernel_rfl, by kernel_rfl⟩
theorem rk : E.rTags ≠ 0 → EnvRK Tryz.prog E (fun _ => True) := fun _ => ⟨tT, sE.iu, rt.int, rt.cU (by decide), rt.cS (by decide), (tu Tryz.func74), fun _ => trivial, sE.mixed, by kernel_rfl, by kernel_rfl, by kernel_rfl⟩
theorem lv : Text Tryz.prog E.lVersion 2 10 #[.tmp 4] (y3 E) := (tu Tryz.func8)
theorem sm : Text Tryz.prog E.sSame 2 26 #[.tmp 4] (gW E) := (tu Tryz.func10)
theorem i16k : qu Tryz.prog E.tI16 = some .i16 := by kernel_rfl
theorem ik : qu Tryz.prog E.tI = some .i64 := by kernel_rfl
theorem o16 : qW Tryz.prog E.tI16 = true := by kernel_rfl
theorem ifE : jH Tryz.prog E.tErr = true := by kernel_rfl
theorem lf : Tryz.prog.liftsFinal = false := by kernel_rfl
theorem me : Tryz.prog.mayEnter = true := by kernel_rfl
theorem lo : laidOutB Tryz.prog = true := by kernel_rfl
theorem own : ownKnob Tryz.prog.godebug = none := by kernel_rfl
end Go.Proofs.YtlcamogfjoneiaaGreatDoor
