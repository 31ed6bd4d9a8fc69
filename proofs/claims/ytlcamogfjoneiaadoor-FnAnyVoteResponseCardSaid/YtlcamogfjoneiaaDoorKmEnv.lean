/- The numbers of this translation; its functions of kbin have the texts that the contracts are about; its types are laid as they ask. -/
import Derived.Test.YtlcamogfjoneiaaDoorKb00
import Derived.Test.YtlcamogfjoneiaaDoorKb01
import Derived.Test.YtlcamogfjoneiaaDoorKb02
import Derived.Test.YtlcamogfjoneiaaDoorKb03
import Derived.Test.YtlcamogfjoneiaaDoorKb04
import Derived.Test.YtlcamogfjoneiaaDoorKb05
import Derived.Test.YtlcamogfjoneiaaDoorRows
set_option linter.unusedVariables false
namespace Go.Proofs.YtlcamogfjoneiaaDoor
open Go Go.Km
def E : Env := { tErr := 35, tI8 := 0, tI16 := 29, tI32 := 21, tI64 := 2, tU8 := 5, tU16 := 62, tW := 59, tU64 := 106, tO := 4, tF64 := 0, tI := 3, tStr := 9, tPStr := 0, tB := 22, tUuid := 0, tTags := 42, tPTags := 80, tRd := 67, tPRd := 73, rI8 := 0, rI16 := 26, rI32 := 37, rI64 := 0, rU16 := 44, rBool := 38, rF64 := 0, rUuid := 0, rStr := 35, rUStr := 33, rCStr := 34, rUCStr := 32, rNStr := 0, rUNStr := 0, rCNStr := 0, rUCNStr := 0, rBytes := 0, rCBytes := 0, rNBytes := 0, rCNBytes := 0, rLen := 28, rCLen := 27, rOk := 29, rComplete := 30, rTags := 39, wI8 := 0, wI16 := 15, wI32 := 20, wI64 := 0, wU16 := 25, wBool := 21, wF64 := 0, wUuid := 0, wStr := 19, wCStr := 18, wNStr := 0, wCNStr := 0, wBytes := 0, wCBytes := 0, wNBytes := 0, wCNBytes := 0, wLen := 17, wCLen := 16, wNLen := 0, wCNLen := 0, wUvarint := 22, tLen := 23, tEach := 24, tUint := 79, tFld := 0, tFlds := 0, tT := 0, tS := 0, tUnk := 0, tK := 0, tMsg := 0, wU32 := 45, wU64 := 0, uvLen := 46, len32 := 53, sHas := 0, sNull := 0, sWhole := 0, sThings := 0, sAt := 0, sUvar := 0, sFixed := 0, sWidth := 0, sCounted := 0, sValue := 0, sField := 0, sUsual := 0, sKnown := 0, sUnknown := 0, sPart := 0, sDefault := 0, sWrite := 0, sKept := 0, sSame := 7, lVersion := 6, tTagMap := 40, tU32s := 60, tFnTag := 75, tFnLess := 90, tAny := 20, gAll := 47, gEach1 := 48, gAll1 := 55, gSet := 41, sortSlice := 54, rUvar := 40, rSpan := 42, rU64 := 0, kUv := 52, kUs := 50, bU16 := 49, bU32 := 51, bU64 := 0, f64b := 0, f64f := 0, tBE := 83, tUvR := 87, zNew := 0, zSame := 0, zTags := 100, vErr := 1, vBE := 0 }
theorem tu {Q : Program} {f : FuncId} {fn : Func} {np nt : Nat} {res : Array ResultVar} {c : Code} (h : Q.funcs[f]? = some fn) (hb : (fn.body.map bare, fn.ntmps, fn.results, fn.name != "runtime.NumGoroutine") = (some c, nt, res, true) := by kernel_rfl) : Text Q f np nt res c := ⟨fn, h, (Prod.mk.inj hb).1, (Prod.mk.inj (Prod.mk.inj hb).2).1, (Prod.mk.inj (Prod.mk.inj (Prod.mk.inj hb).2).2).1, by simpa using (Prod.mk.inj (Prod.mk.inj (Prod.mk.inj hb).2).2).2⟩
theorem tt {Q : Program} {f : FuncId} {fn : Func} {np nt : Nat} {res : Array ResultVar} {c : Code} (h : Q.funcs[f]? = some fn) (hb : fn.body.map bare = some c) (hn : fn.ntmps = nt) (hr : fn.results = res) (hne : fn.name ≠ "runtime.NumGoroutine") : Text Q f np nt res c := ⟨fn, h, hb, hn, hr, hne⟩
theorem kt : KTexts Tryd.prog E where
  wBool := fun _ => (tu Tryd.func21)
  wI8 := fun h => absurd rfl h
  wI16 := fun _ => (tu Tryd.func15)
  wU16 := fun _ => (tu Tryd.func25)
  wI32 := fun _ => (tu Tryd.func20)
  wU32 := fun _ => (tu Tryd.func45)
  wI64 := fun h => absurd rfl h
  wU64 := fun h => absurd rfl h
  wUuid := fun h => absurd rfl h
  wStr := fun _ => (tu Tryd.func19)
  wCStr := fun _ => (tu Tryd.func18)
  wNStr := fun h => absurd rfl h
  wCNStr := fun h => absurd rfl h
  wBytes := fun h => absurd rfl h
  wCBytes := fun h => absurd rfl h
  wNBytes := fun h => absurd rfl h
  wCNBytes := fun h => absurd rfl h
  wLen := fun _ => (tu Tryd.func17)
  wCLen := fun _ => (tu Tryd.func16)
  wNLen := fun h => absurd rfl h
  wCNLen := fun h => absurd rfl h
  uvLen := fun _ => (tu Tryd.func46)
  len32 := fun _ => (tu Tryd.func53)
  wUvarint := fun _ => (tu Tryd.func22)
  tLen := fun _ => (tu Tryd.func23)
  tEach := fun _ => (tu Tryd.func24)
  gAll := fun _ => (tu Tryd.func47)
theorem rt : RTexts Tryd.prog E where
  mixed := (by kernel_rfl)
  row := (by kernel_rfl)
  u8 := (by kernel_rfl)
  int := (by kernel_rfl)
  oBytes := (by kernel_rfl)
  oBool := (by kernel_rfl)
  oU8 := (by kernel_rfl)
  f0 := (by kernel_rfl)
  f1 := (by kernel_rfl)
  i32 := (by kernel_rfl)
  oE := (by kernel_rfl)
  rOk := (tu Tryd.func29)
  rComplete := (tu Tryd.func30)
  rI8 := fun h => absurd rfl h
  rBool := fun _ => (tu Tryd.func38)
  rI16 := fun _ => ⟨(by kernel_rfl), (by kernel_rfl), (by kernel_rfl), (tu Tryd.func49), (tu Tryd.func26)⟩
  rU16 := fun _ => ⟨(by kernel_rfl), (by kernel_rfl), (tu Tryd.func49), (tu Tryd.func44)⟩
  rI32 := fun _ => ⟨(by kernel_rfl), (by kernel_rfl), (tu Tryd.func51), (tu Tryd.func37)⟩
  rI64 := fun h => absurd rfl h
  rUvar := fun _ => ⟨(by kernel_rfl), (tu Tryd.func52), (tu Tryd.func40)⟩
  rSpan := fun _ => (tu Tryd.func42)
  rStr := fun _ => ⟨(by kernel_rfl), (by decide), (by decide), (tu Tryd.func35)⟩
  rCStr := fun _ => ⟨(by kernel_rfl), (by decide), (by decide), (tu Tryd.func34)⟩
  rNStr := fun h => absurd rfl h
  rCNStr := fun h => absurd rfl h
  rBytes := fun h => absurd rfl h
  rCBytes := fun h => absurd rfl h
  rNBytes := fun h => absurd rfl h
  rCNBytes := fun h => absurd rfl h
  rLen := fun _ => ⟨(by decide), (tu Tryd.func28)⟩
  rCLen := fun _ => ⟨(by decide), (tu Tryd.func27)⟩
def sl6_ren : Go.Shelf.Ren := ⟨fun | 6 => 54 | 10 => 56 | 11 => 57 | 12 => 58 | 13 => 59 | 14 => 60 | 24 => 53 | 25 => 70 | 26 => 71 | 27 => 72 | 28 => 73 | 29 => 74 | 30 => 75 | 31 => 76 | 32 => 77 | 33 => 78 | 34 => 79 | 35 => 80 | 36 => 81 | 37 => 82 | 38 => 83 | 39 => 84 | n => n, fun | 20 => 20 | 26 => 90 | 35 => 94 | 0 => 0 | 37 => 96 | 3 => 3 | 41 => 79 | 44 => 101 | 49 => 59 | 51 => 106 | 4 => 4 | 54 => 109 | 53 => 108 | 58 => 113 | 5 => 5 | 9 => 9 | 60 => 115 | 64 => 119 | 66 => 121 | 67 => 122 | 17 => 17 | 32 => 91 | 33 => 92 | 82 => 137 | 12 => 12 | 75 => 130 | 76 => 131 | 77 => 132 | 78 => 133 | 79 => 134 | 80 => 135 | n => n, fun | n => n⟩
theorem sl6 : Go.Proofs.LaysGg.n6 Tryd.prog sl6_ren where
  mixed := by kernel_rfl
  f6 := Tryd.func54.trans (congrArg some (by kernel_rfl))
  f10 := Tryd.func56.trans (congrArg some (by kernel_rfl))
  f11 := Tryd.func57.trans (congrArg some (by kernel_rfl))
  f12 := Tryd.func58.trans (congrArg some (by kernel_rfl))
  f13 := Tryd.func59.trans (congrArg some (by kernel_rfl))
  f14 := Tryd.func60.trans (congrArg some (by kernel_rfl))
  f24 := Tryd.func53.trans (congrArg some (by kernel_rfl))
  f25 := Tryd.func70.trans (congrArg some (by kernel_rfl))
  f26 := Tryd.func71.trans (congrArg some (by kernel_rfl))
  f27 := Tryd.func72.trans (congrArg some (by kernel_rfl))
  f28 := Tryd.func73.trans (congrArg some (by kernel_rfl))
  f29 := Tryd.func74.trans (congrArg some (by kernel_rfl))
  f30 := Tryd.func75.trans (congrArg some (by kernel_rfl))
  f31 := Tryd.func76.trans (congrArg some (by kernel_rfl))
  f32 := Tryd.func77.trans (congrArg some (by kernel_rfl))
  f33 := Tryd.func78.trans (congrArg some (by kernel_rfl))
  f34 := Tryd.func79.trans (congrArg some (by kernel_rfl))
  f35 := Tryd.func80.trans (congrArg some (by kernel_rfl))
  f36 := Tryd.func81.trans (congrArg some (by kernel_rfl))
  f37 := Tryd.func82.trans (congrArg some (by kernel_rfl))
  f38 := Tryd.func83.trans (congrArg some (by kernel_rfl))
  f39 := Tryd.func84.trans (congrArg some (by kernel_rfl))
  t0 := Tryd.underlying0
  a0 := Tryd.isAgg0
  z0 := Tryd.sizeOf0
  v0 := Tryd.zeroValue0
  i0 := by kernel_rfl
  t3 := Tryd.underlying3
  a3 := Tryd.isAgg3
  z3 := Tryd.sizeOf3
  v3 := Tryd.zeroValue3
  i3 := by kernel_rfl
  t4 := Tryd.underlying4
  a4 := Tryd.isAgg4
  z4 := Tryd.sizeOf4
  v4 := Tryd.zeroValue4
  i4 := by kernel_rfl
  t5 := Tryd.underlying5
  a5 := Tryd.isAgg5
  z5 := Tryd.sizeOf5
  v5 := Tryd.zeroValue5
  i5 := by kernel_rfl
  t9 := Tryd.underlying9
  a9 := Tryd.isAgg9
  z9 := Tryd.sizeOf9
  v9 := Tryd.zeroValue9
  i9 := by kernel_rfl
  t12 := Tryd.underlying12
  a12 := Tryd.isAgg12
  z12 := Tryd.sizeOf12
  v12 := Tryd.zeroValue12
  i12 := by kernel_rfl
  t17 := Tryd.underlying17
  a17 := Tryd.isAgg17
  z17 := Tryd.sizeOf17
  v17 := Tryd.zeroValue17
  i17 := by kernel_rfl
  t20 := Tryd.underlying20
  a20 := Tryd.isAgg20
  z20 := Tryd.sizeOf20
  v20 := Tryd.zeroValue20
  i20 := by kernel_rfl
  t26 := Tryd.underlying90
  a26 := Tryd.isAgg90
  z26 := Tryd.sizeOf90
  v26 := Tryd.zeroValue90
  i26 := by kernel_rfl
  t32 := Tryd.underlying91
  a32 := Tryd.isAgg91
  z32 := Tryd.sizeOf91
  v32 := Tryd.zeroValue91
  i32 := by kernel_rfl
  t33 := Tryd.underlying92
  a33 := Tryd.isAgg92
  z33 := Tryd.sizeOf92
  v33 := Tryd.zeroValue92
  i33 := by kernel_rfl
  t35 := Tryd.underlying94
  a35 := Tryd.isAgg94
  z35 := Tryd.sizeOf94
  v35 := Tryd.zeroValue94
  i35 := by kernel_rfl
  t37 := Tryd.underlying96
  a37 := Tryd.isAgg96
  z37 := Tryd.sizeOf96
  v37 := Tryd.zeroValue96
  i37 := by kernel_rfl
  t41 := Tryd.underlying79
  a41 := Tryd.isAgg79
  z41 := Tryd.sizeOf79
  v41 := Tryd.zeroValue79
  i41 := by kernel_rfl
  t44 := Tryd.underlying101
  a44 := Tryd.isAgg101
  z44 := Tryd.sizeOf101
  v44 := Tryd.zeroValue101
  i44 := by kernel_rfl
  t49 := Tryd.underlying59
  a49 := Tryd.isAgg59
  z49 := Tryd.sizeOf59
  v49 := Tryd.zeroValue59
  i49 := by kernel_rfl
  t51 := Tryd.underlying106
  a51 := Tryd.isAgg106
  z51 := Tryd.sizeOf106
  v51 := Tryd.zeroValue106
  i51 := by kernel_rfl
  t53 := Tryd.underlying108
  a53 := Tryd.isAgg108
  z53 := Tryd.sizeOf108
  v53 := Tryd.zeroValue108
  i53 := by kernel_rfl
  t54 := Tryd.underlying109
  a54 := Tryd.isAgg109
  z54 := Tryd.sizeOf109
  v54 := Tryd.zeroValue109
  i54 := by kernel_rfl
  t58 := Tryd.underlying113
  a58 := Tryd.isAgg113
  z58 := Tryd.sizeOf113
  v58 := Tryd.zeroValue113
  i58 := by kernel_rfl
  t60 := Tryd.underlying115
  a60 := Tryd.isAgg115
  z60 := Tryd.sizeOf115
  v60 := Tryd.zeroValue115
  i60 := by kernel_rfl
  t64 := Tryd.underlying119
  a64 := Tryd.isAgg119
  z64 := Tryd.sizeOf119
  v64 := Tryd.zeroValue119
  i64 := by kernel_rfl
  t66 := Tryd.underlying121
  a66 := Tryd.isAgg121
  z66 := Tryd.sizeOf121
  v66 := Tryd.zeroValue121
  i66 := by kernel_rfl
  t67 := Tryd.underlying122
  a67 := Tryd.isAgg122
  z67 := Tryd.sizeOf122
  v67 := Tryd.zeroValue122
  i67 := by kernel_rfl
  t75 := Tryd.underlying130
  a75 := Tryd.isAgg130
  z75 := Tryd.sizeOf130
  v75 := Tryd.zeroValue130
  i75 := by kernel_rfl
  t76 := Tryd.underlying131
  a76 := Tryd.isAgg131
  z76 := Tryd.sizeOf131
  v76 := Tryd.zeroValue131
  i76 := by kernel_rfl
  t77 := Tryd.underlying132
  a77 := Tryd.isAgg132
  z77 := Tryd.sizeOf132
  v77 := Tryd.zeroValue132
  i77 := by kernel_rfl
  t78 := Tryd.underlying133
  a78 := Tryd.isAgg133
  z78 := Tryd.sizeOf133
  v78 := Tryd.zeroValue133
  i78 := by kernel_rfl
  t79 := Tryd.underlying134
  a79 := Tryd.isAgg134
  z79 := Tryd.sizeOf134
  v79 := Tryd.zeroValue134
  i79 := by kernel_rfl
  t80 := Tryd.underlying135
  a80 := Tryd.isAgg135
  z80 := Tryd.sizeOf135
  v80 := Tryd.zeroValue135
  i80 := by kernel_rfl
  t82 := Tryd.underlying137
  a82 := Tryd.isAgg137
  z82 := Tryd.sizeOf137
  v82 := Tryd.zeroValue137
  i82 := by kernel_rfl
theorem tT : TagT Tryd.prog E := ⟨by kernel_rfl, by kernel_rfl, by kernel_rfl, by kernel_rfl, by kernel_rfl, by kernel_rfl⟩
theorem sE : SortE Tryd.prog E where
  mixed := by kernel_rfl
  row := by kernel_rfl
  oU32s := by kernel_rfl
  zU32s := by kernel_rfl
  oU32 := by kernel_rfl
  iu := by kernel_rfl
  L := ⟨sl6_ren, sl6, rfl⟩
  enters := Go.Proofs.enters_of Tryd.func54 (by kernel_rfl) rfl
  info := ⟨Tryd.t60, Tryd.t59, by kernel_rfl, by kernel_rfl, by kernel_rfl, by kernel_rfl, by kernel_rfl, by kernel_rfl, by kernel_rfl⟩
  kind := fun _ => by kernel_rfl
  sw2 := ⟨62, by kernel_rfl⟩
  sw6 := ⟨66, true, by kernel_rfl, fun args W => run_callFunc_extern Tryd.func66 (by kernel_rfl) (by kernel_rfl) (by kernel_rfl) (e := Extern.ReflectliteSwapper.swap true) (by kernel_rfl) args W⟩
  less := (tu Tryd.func55)
theorem tg : TTexts Tryd.prog E := ⟨tT, sE, (tu Tryd.func48), by decide⟩
theorem tr : TagsR Tryd.prog E (fun _ => True) := tagsR tT sE.iu rt.int (fun _ => rt.cU (by decide)) (fun _ => rt.cS (by decide)) (fun _ => (tu Tryd.func41)) (fun _ => (tu Tryd.func39))
theorem ew : EnvW Tryd.prog E (fun _ => True) := envWT kt (by kernel_rfl) tg
theorem ur : UuidR Tryd.prog E := fun h => absurd rfl h
theorem ei : EnvI Tryd.prog E := ⟨by kernel_rfl, by kernel_rfl, by kernel_rfl, by kernel_rfl⟩
theorem er : EnvR Tryd.prog E (fun _ => True) := envR rt (by decide) ur tr
theorem rx : EnvRX Tryd.prog E := ⟨by kernel_rfl, by kernel_rfl, by kernel_rfl⟩
theorem rk : E.rTags ≠ 0 → EnvRK Tryd.prog E (fun _ => True) := fun _ => ⟨tT, sE.iu, rt.int, rt.cU (by decide), rt.cS (by decide), (tu Tryd.func41), fun _ => trivial, sE.mixed, by kernel_rfl, by kernel_rfl, by kernel_rfl⟩
theorem lv : Text Tryd.prog E.lVersion 2 10 #[.tmp 4] (kG E) := (tu Tryd.func6)
theorem sm : Text Tryd.prog E.sSame 2 26 #[.tmp 4] (gA E) := (tu Tryd.func7)
theorem i16k : qs Tryd.prog E.tI16 = some .i16 := by kernel_rfl
theorem ik : qs Tryd.prog E.tI = some .i64 := by kernel_rfl
theorem o16 : qQ Tryd.prog E.tI16 = true := by kernel_rfl
theorem ifE : ju Tryd.prog E.tErr = true := by kernel_rfl
theorem lf : Tryd.prog.liftsFinal = false := by kernel_rfl
theorem me : Tryd.prog.mayEnter = true := by kernel_rfl
theorem lo : laidOutB Tryd.prog = true := by kernel_rfl
theorem own : ownKnob Tryd.prog.godebug = none := by kernel_rfl
end Go.Proofs.YtlcamogfjoneiaaDoor
