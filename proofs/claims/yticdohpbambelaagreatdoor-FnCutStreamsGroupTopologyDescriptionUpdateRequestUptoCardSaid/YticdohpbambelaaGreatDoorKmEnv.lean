/- The numbers of this translation; its functions of kbin have the texts that the contracts are about; its types are laid as they ask. -/
import Derived.Test.YticdohpbambelaaGreatDoorKb00
import Derived.Test.YticdohpbambelaaGreatDoorKb01
import Derived.Test.YticdohpbambelaaGreatDoorKb02
import Derived.Test.YticdohpbambelaaGreatDoorKb03
import Derived.Test.YticdohpbambelaaGreatDoorKb04
import Derived.Test.YticdohpbambelaaGreatDoorKb05
import Derived.Test.YticdohpbambelaaGreatDoorRows
set_option linter.unusedVariables false
namespace Go.Proofs.YticdohpbambelaaGreatDoor
open Go Go.Km
def E : Env := { tErr := 50, tI8 := 84, tI16 := 40, tI32 := 21, tI64 := 2, tU8 := 5, tU16 := 27, tW := 53, tU64 := 72, tO := 4, tF64 := 0, tI := 3, tStr := 9, tPStr := 86, tB := 22, tUuid := 0, tTags := 61, tPTags := 115, tRd := 104, tPRd := 112, rI8 := 62, rI16 := 77, rI32 := 54, rI64 := 0, rU16 := 0, rBool := 0, rF64 := 0, rUuid := 0, rStr := 53, rUStr := 51, rCStr := 52, rUCStr := 50, rNStr := 66, rUNStr := 65, rCNStr := 64, rUCNStr := 63, rBytes := 0, rCBytes := 0, rNBytes := 0, rCNBytes := 0, rLen := 57, rCLen := 56, rOk := 58, rComplete := 59, rTags := 67, wI8 := 36, wI16 := 69, wI32 := 33, wI64 := 0, wU16 := 80, wBool := 0, wF64 := 0, wUuid := 0, wStr := 32, wCStr := 31, wNStr := 38, wCNStr := 37, wBytes := 0, wCBytes := 0, wNBytes := 0, wCNBytes := 0, wLen := 35, wCLen := 34, wNLen := 0, wCNLen := 0, wUvarint := 39, tLen := 40, tEach := 41, tUint := 102, tFld := 46, tFlds := 31, tT := 26, tS := 23, tUnk := 55, tK := 24, tMsg := 33, wU32 := 70, wU64 := 0, uvLen := 71, len32 := 81, sHas := 20, sNull := 42, sWhole := 27, sThings := 43, sAt := 22, sUvar := 25, sFixed := 46, sWidth := 48, sCounted := 44, sValue := 45, sField := 21, sUsual := 24, sKnown := 23, sUnknown := 26, sPart := 13, sDefault := 0, sWrite := 6, sKept := 0, sSame := 47, lVersion := 8, tTagMap := 59, tU32s := 125, tFnTag := 117, tFnLess := 127, tAny := 20, gAll := 72, gEach1 := 73, gAll1 := 83, gSet := 79, sortSlice := 82, rUvar := 74, rSpan := 76, rU64 := 0, kUv := 84, kUs := 75, bU16 := 85, bU32 := 78, bU64 := 0, f64b := 0, f64f := 0, tBE := 122, tUvR := 128, vErr := 1, vBE := 0 }
theorem tu {Q : Program} {f : FuncId} {fn : Func} {np nt : Nat} {res : Array ResultVar} {c : Code} (h : Q.funcs[f]? = some fn) (hb : (fn.body.map bare, fn.ntmps, fn.results, fn.name != "runtime.NumGoroutine") = (some c, nt, res, true) := by kernel_rfl) : Text Q f np nt res c := ⟨fn, h, (Prod.mk.inj hb).1, (Prod.mk.inj (Prod.mk.inj hb).2).1, (Prod.mk.inj (Prod.mk.inj (Prod.mk.inj hb).2).2).1, by simpa using (Prod.mk.inj (Prod.mk.inj (Prod.mk.inj hb).2).2).2⟩
theorem tt {Q : Program} {f : FuncId} {fn : Func} {np nt : Nat} {res : Array ResultVar} {c : Code} (h : Q.funcs[f]? = some fn) (hb : fn.body.map bare = some c) (hn : fn.ntmps = nt) (hr : fn.results = res) (hne : fn.name ≠ "runtime.NumGoroutine") : Text Q f np nt res c := ⟨fn, h, hb, hn, hr, hne⟩
theorem kt : KTexts Tryz.prog E where
  wBool := fun h => absurd rfl h
  wI8 := fun _ => (tu Tryz.func36)
  wI16 := fun _ => (tu Tryz.func69)
  wU16 := fun _ => (tu Tryz.func80)
  wI32 := fun _ => (tu Tryz.func33)
  wU32 := fun _ => (tu Tryz.func70)
  wI64 := fun h => absurd rfl h
  wU64 := fun h => absurd rfl h
  wUuid := fun h => absurd rfl h
  wStr := fun _ => (tu Tryz.func32)
  wCStr := fun _ => (tu Tryz.func31)
  wNStr := fun _ => (tu Tryz.func38)
  wCNStr := fun _ => (tu Tryz.func37)
  wBytes := fun h => absurd rfl h
  wCBytes := fun h => absurd rfl h
  wNBytes := fun h => absurd rfl h
  wCNBytes := fun h => absurd rfl h
  wLen := fun _ => (tu Tryz.func35)
  wCLen := fun _ => (tu Tryz.func34)
  wNLen := fun h => absurd rfl h
  wCNLen := fun h => absurd rfl h
  uvLen := fun _ => (tu Tryz.func71)
  len32 := fun _ => (tu Tryz.func81)
  wUvarint := fun _ => (tu Tryz.func39)
  tLen := fun _ => (tu Tryz.func40)
  tEach := fun _ => (tu Tryz.func41)
  gAll := fun _ => (tu Tryz.func72)
theorem rt : RTexts Tryz.prog E where
  mixed := (by kernel_rfl)
  row := (by kernel_rfl)
  u8 := (by kernel_rfl)
  int := (by kernel_rfl)
  oBytes := (by kernel_rfl)
  oBool := (by kernel_rfl)
  oU8 := (by kernel_rfl)
  f0 := (by kernel_rfl)
  f1 := (by kernel_rfl)
  i32 := (by kernel_rfl)
  oE := (by kernel_rfl)
  rOk := (tu Tryz.func58)
  rComplete := (tu Tryz.func59)
  rI8 := fun _ => ⟨(by kernel_rfl), (tu Tryz.func62)⟩
  rBool := fun h => absurd rfl h
  rI16 := fun _ => ⟨(by kernel_rfl), (by kernel_rfl), (by kernel_rfl), (tu Tryz.func85), (tu Tryz.func77)⟩
  rU16 := fun h => absurd rfl h
  rI32 := fun _ => ⟨(by kernel_rfl), (by kernel_rfl), (tu Tryz.func78), (tu Tryz.func54)⟩
  rI64 := fun h => absurd rfl h
  rUvar := fun _ => ⟨(by kernel_rfl), (tu Tryz.func84), (tu Tryz.func74)⟩
  rSpan := fun _ => (tu Tryz.func76)
  rStr := fun _ => ⟨(by kernel_rfl), (by decide), (by decide), (tu Tryz.func53)⟩
  rCStr := fun _ => ⟨(by kernel_rfl), (by decide), (by decide), (tu Tryz.func52)⟩
  rNStr := fun _ => ⟨(by kernel_rfl), (by kernel_rfl), (by kernel_rfl), (by decide), (by decide), (tu Tryz.func66)⟩
  rCNStr := fun _ => ⟨(by kernel_rfl), (by kernel_rfl), (by kernel_rfl), (by decide), (by decide), (tu Tryz.func64)⟩
  rBytes := fun h => absurd rfl h
  rCBytes := fun h => absurd rfl h
  rNBytes := fun h => absurd rfl h
  rCNBytes := fun h => absurd rfl h
  rLen := fun _ => ⟨(by decide), (tu Tryz.func57)⟩
  rCLen := fun _ => ⟨(by decide), (tu Tryz.func56)⟩
def sl6_ren : Go.Shelf.Ren := ⟨fun | 6 => 82 | 10 => 86 | 11 => 87 | 12 => 88 | 13 => 89 | 14 => 90 | 24 => 81 | 25 => 100 | 26 => 101 | 27 => 102 | 28 => 103 | 29 => 104 | 30 => 105 | 31 => 106 | 32 => 107 | 33 => 108 | 34 => 109 | 35 => 110 | 36 => 111 | 37 => 112 | 38 => 113 | 39 => 114 | n => n, fun | 20 => 20 | 26 => 127 | 35 => 134 | 0 => 0 | 37 => 136 | 3 => 3 | 41 => 102 | 44 => 141 | 49 => 53 | 51 => 72 | 4 => 4 | 54 => 148 | 53 => 147 | 58 => 152 | 5 => 5 | 9 => 9 | 60 => 154 | 64 => 158 | 66 => 160 | 67 => 161 | 17 => 17 | 32 => 131 | 33 => 132 | 82 => 176 | 12 => 12 | 75 => 169 | 76 => 170 | 77 => 171 | 78 => 172 | 79 => 173 | 80 => 174 | n => n, fun | n => n⟩
theorem sl6 : Go.Proofs.LaysGg.n6 Tryz.prog sl6_ren where
  mixed := by kernel_rfl
  f6 := Tryz.func82.trans (congrArg some (by kernel_rfl))
  f10 := Tryz.func86.trans (congrArg some (by kernel_rfl))
  f11 := Tryz.func87.trans (congrArg some (by kernel_rfl))
  f12 := Tryz.func88.trans (congrArg some (by kernel_rfl))
  f13 := Tryz.func89.trans (congrArg some (by kernel_rfl))
  f14 := Tryz.func90.trans (congrArg some (by kernel_rfl))
  f24 := Tryz.func81.trans (congrArg some (by kernel_rfl))
  f25 := Tryz.func100.trans (congrArg some (by kernel_rfl))
  f26 := Tryz.func101.trans (congrArg some (by kernel_rfl))
  f27 := Tryz.func102.trans (congrArg some (by kernel_rfl))
  f28 := Tryz.func103.trans (congrArg some (by kernel_rfl))
  f29 := Tryz.func104.trans (congrArg some (by kernel_rfl))
  f30 := Tryz.func105.trans (congrArg some (by kernel_rfl))
  f31 := Tryz.func106.trans (congrArg some (by kernel_rfl))
  f32 := Tryz.func107.trans (congrArg some (by kernel_rfl))
  f33 := Tryz.func108.trans (congrArg some (by kernel_rfl))
  f34 := Tryz.func109.trans (congrArg some (by kernel_rfl))
  f35 := Tryz.func110.trans (congrArg some (by kernel_rfl))
  f36 := Tryz.func111.trans (congrArg some (by kernel_rfl))
  f37 := Tryz.func112.trans (congrArg some (by kernel_rfl))
  f38 := Tryz.func113.trans (congrArg some (by kernel_rfl))
  f39 := Tryz.func114.trans (congrArg some (by kernel_rfl))
  t0 := Tryz.underlying0
  a0 := Tryz.isAgg0
  z0 := Tryz.sizeOf0
  v0 := Tryz.zeroValue0
  i0 := by kernel_rfl
  t3 := Tryz.underlying3
  a3 := Tryz.isAgg3
  z3 := Tryz.sizeOf3
  v3 := Tryz.zeroValue3
  i3 := by kernel_rfl
  t4 := Tryz.underlying4
  a4 := Tryz.isAgg4
  z4 := Tryz.sizeOf4
  v4 := Tryz.zeroValue4
  i4 := by kernel_rfl
  t5 := Tryz.underlying5
  a5 := Tryz.isAgg5
  z5 := Tryz.sizeOf5
  v5 := Tryz.zeroValue5
  i5 := by kernel_rfl
  t9 := Tryz.underlying9
  a9 := Tryz.isAgg9
  z9 := Tryz.sizeOf9
  v9 := Tryz.zeroValue9
  i9 := by kernel_rfl
  t12 := Tryz.underlying12
  a12 := Tryz.isAgg12
  z12 := Tryz.sizeOf12
  v12 := Tryz.zeroValue12
  i12 := by kernel_rfl
  t17 := Tryz.underlying17
  a17 := Tryz.isAgg17
  z17 := Tryz.sizeOf17
  v17 := Tryz.zeroValue17
  i17 := by kernel_rfl
  t20 := Tryz.underlying20
  a20 := Tryz.isAgg20
  z20 := Tryz.sizeOf20
  v20 := Tryz.zeroValue20
  i20 := by kernel_rfl
  t26 := Tryz.underlying127
  a26 := Tryz.isAgg127
  z26 := Tryz.sizeOf127
  v26 := Tryz.zeroValue127
  i26 := by kernel_rfl
  t32 := Tryz.underlying131
  a32 := Tryz.isAgg131
  z32 := Tryz.sizeOf131
  v32 := Tryz.zeroValue131
  i32 := by kernel_rfl
  t33 := Tryz.underlying132
  a33 := Tryz.isAgg132
  z33 := Tryz.sizeOf132
  v33 := Tryz.zeroValue132
  i33 := by kernel_rfl
  t35 := Tryz.underlying134
  a35 := Tryz.isAgg134
  z35 := Tryz.sizeOf134
  v35 := Tryz.zeroValue134
  i35 := by kernel_rfl
  t37 := Tryz.underlying136
  a37 := Tryz.isAgg136
  z37 := Tryz.sizeOf136
  v37 := Tryz.zeroValue136
  i37 := by kernel_rfl
  t41 := Tryz.underlying102
  a41 := Tryz.isAgg102
  z41 := Tryz.sizeOf102
  v41 := Tryz.zeroValue102
  i41 := by kernel_rfl
  t44 := Tryz.underlying141
  a44 := Tryz.isAgg141
  z44 := Tryz.sizeOf141
  v44 := Tryz.zeroValue141
  i44 := by kernel_rfl
  t49 := Tryz.underlying53
  a49 := Tryz.isAgg53
  z49 := Tryz.sizeOf53
  v49 := Tryz.zeroValue53
  i49 := by kernel_rfl
  t51 := Tryz.underlying72
  a51 := Tryz.isAgg72
  z51 := Tryz.sizeOf72
  v51 := Tryz.zeroValue72
  i51 := by kernel_rfl
  t53 := Tryz.underlying147
  a53 := Tryz.isAgg147
  z53 := Tryz.sizeOf147
  v53 := Tryz.zeroValue147
  i53 := by kernel_rfl
  t54 := Tryz.underlying148
  a54 := Tryz.isAgg148
  z54 := Tryz.sizeOf148
  v54 := Tryz.zeroValue148
  i54 := by kernel_rfl
  t58 := Tryz.underlying152
  a58 := Tryz.isAgg152
  z58 := Tryz.sizeOf152
  v58 := Tryz.zeroValue152
  i58 := by kernel_rfl
  t60 := Tryz.underlying154
  a60 := Tryz.isAgg154
  z60 := Tryz.sizeOf154
  v60 := Tryz.zeroValue154
  i60 := by kernel_rfl
  t64 := Tryz.underlying158
  a64 := Tryz.isAgg158
  z64 := Tryz.sizeOf158
  v64 := Tryz.zeroValue158
  i64 := by kernel_rfl
  t66 := Tryz.underlying160
  a66 := Tryz.isAgg160
  z66 := Tryz.sizeOf160
  v66 := Tryz.zeroValue160
  i66 := by kernel_rfl
  t67 := Tryz.underlying161
  a67 := Tryz.isAgg161
  z67 := Tryz.sizeOf161
  v67 := Tryz.zeroValue161
  i67 := by kernel_rfl
  t75 := Tryz.underlying169
  a75 := Tryz.isAgg169
  z75 := Tryz.sizeOf169
  v75 := Tryz.zeroValue169
  i75 := by kernel_rfl
  t76 := Tryz.underlying170
  a76 := Tryz.isAgg170
  z76 := Tryz.sizeOf170
  v76 := Tryz.zeroValue170
  i76 := by kernel_rfl
  t77 := Tryz.underlying171
  a77 := Tryz.isAgg171
  z77 := Tryz.sizeOf171
  v77 := Tryz.zeroValue171
  i77 := by kernel_rfl
  t78 := Tryz.underlying172
  a78 := Tryz.isAgg172
  z78 := Tryz.sizeOf172
  v78 := Tryz.zeroValue172
  i78 := by kernel_rfl
  t79 := Tryz.underlying173
  a79 := Tryz.isAgg173
  z79 := Tryz.sizeOf173
  v79 := Tryz.zeroValue173
  i79 := by kernel_rfl
  t80 := Tryz.underlying174
  a80 := Tryz.isAgg174
  z80 := Tryz.sizeOf174
  v80 := Tryz.zeroValue174
  i80 := by kernel_rfl
  t82 := Tryz.underlying176
  a82 := Tryz.isAgg176
  z82 := Tryz.sizeOf176
  v82 := Tryz.zeroValue176
  i82 := by kernel_rfl
theorem tT : TagT Tryz.prog E := ⟨by kernel_rfl, by kernel_rfl, by kernel_rfl, by kernel_rfl, by kernel_rfl, by kernel_rfl⟩
theorem sE : SortE Tryz.prog E where
  mixed := by kernel_rfl
  row := by kernel_rfl
  oU32s := by kernel_rfl
  zU32s := by kernel_rfl
  oU32 := by kernel_rfl
  iu := by kernel_rfl
  L := ⟨sl6_ren, sl6, rfl⟩
  enters := Go.Proofs.enters_of Tryz.func82 (by kernel_rfl) rfl
  info := ⟨Tryz.t125, Tryz.t53, by kernel_rfl, by kernel_rfl, by kernel_rfl, by kernel_rfl, by kernel_rfl, by kernel_rfl, by kernel_rfl⟩
  kind := fun _ => by kernel_rfl
  sw2 := ⟨92, by kernel_rfl⟩
  sw6 := ⟨96, true, by kernel_rfl, fun args W => run_callFunc_extern Tryz.func96 (by kernel_rfl) (by kernel_rfl) (by kernel_rfl) (e := Extern.ReflectliteSwapper.swap true) (by kernel_rfl) args W⟩
  less := (tu Tryz.func83)
theorem tg : TTexts Tryz.prog E := ⟨tT, sE, (tu Tryz.func73), by decide⟩
theorem tr : TagsR Tryz.prog E (fun _ => True) := tagsR tT sE.iu rt.int (fun _ => rt.cU (by decide)) (fun _ => rt.cS (by decide)) (fun _ => (tu Tryz.func79)) (fun _ => (tu Tryz.func67))
theorem ew : EnvW Tryz.prog E (fun _ => True) := envWT kt (by kernel_rfl) tg
theorem ur : UuidR Tryz.prog E := fun h => absurd rfl h
theorem ei : EnvI Tryz.prog E := ⟨by kernel_rfl, by kernel_rfl⟩
theorem er : EnvR Tryz.prog E (fun _ => True) := envR rt (by decide) ur tr
theorem rx : EnvRX Tryz.prog E := ⟨by kernel_rfl, by kernel_rfl, by kernel_rfl⟩
theorem lv : Text Tryz.prog E.lVersion 2 10 #[.tmp 4] (c_lVersion E) := (tu Tryz.func8)
theorem sm : Text Tryz.prog E.sSame 2 26 #[.tmp 4] (c_sSame E) := (tu Tryz.func47)
theorem i16k : intT Tryz.prog E.tI16 = some .i16 := by kernel_rfl
theorem ik : intT Tryz.prog E.tI = some .i64 := by kernel_rfl
theorem o16 : oneT Tryz.prog E.tI16 = true := by kernel_rfl
theorem ifE : ifaceT Tryz.prog E.tErr = true := by kernel_rfl
theorem lf : Tryz.prog.liftsFinal = false := by kernel_rfl
theorem me : Tryz.prog.mayEnter = true := by kernel_rfl
theorem lo : laidOutB Tryz.prog = true := by kernel_rfl
theorem own : ownKnob Tryz.prog.godebug = none := by kernel_rfl
end Go.Proofs.YticdohpbambelaaGreatDoor
