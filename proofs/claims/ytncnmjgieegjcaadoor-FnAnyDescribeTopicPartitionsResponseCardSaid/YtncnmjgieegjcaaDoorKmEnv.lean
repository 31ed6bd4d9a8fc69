/- The numbers of this translation; its functions of kbin have the texts that the contracts are about; its types are laid as they ask. -/
import Derived.Test.YtncnmjgieegjcaaDoorKb00
import Derived.Test.YtncnmjgieegjcaaDoorKb01
import Derived.Test.YtncnmjgieegjcaaDoorKb02
import Derived.Test.YtncnmjgieegjcaaDoorKb03
import Derived.Test.YtncnmjgieegjcaaDoorKb04
import Derived.Test.YtncnmjgieegjcaaDoorRows
set_option linter.unusedVariables false
namespace Go.Proofs.YtncnmjgieegjcaaDoor
open Go Go.Km
def E : Env := { tErr := 35, tI8 := 78, tI16 := 29, tI32 := 21, tI64 := 2, tU8 := 5, tU16 := 82, tW := 64, tU64 := 115, tO := 4, tF64 := 0, tI := 3, tStr := 9, tPStr := 49, tB := 22, tUuid := 50, tTags := 42, tPTags := 85, tRd := 70, tPRd := 77, rI8 := 45, rI16 := 36, rI32 := 30, rI64 := 0, rU16 := 0, rBool := 42, rF64 := 0, rUuid := 41, rStr := 50, rUStr := 48, rCStr := 49, rUCStr := 47, rNStr := 40, rUNStr := 39, rCNStr := 38, rUCNStr := 37, rBytes := 0, rCBytes := 0, rNBytes := 0, rCNBytes := 0, rLen := 32, rCLen := 31, rOk := 33, rComplete := 34, rTags := 44, wI8 := 0, wI16 := 18, wI32 := 15, wI64 := 0, wU16 := 52, wBool := 22, wF64 := 0, wUuid := 21, wStr := 29, wCStr := 28, wNStr := 20, wCNStr := 19, wBytes := 0, wCBytes := 0, wNBytes := 0, wCNBytes := 0, wLen := 17, wCLen := 16, wNLen := 24, wCNLen := 23, wUvarint := 25, tLen := 26, tEach := 27, tUint := 84, tFld := 0, tFlds := 0, tT := 0, tS := 0, tUnk := 0, tK := 0, tMsg := 0, wU32 := 51, wU64 := 0, uvLen := 53, len32 := 62, sHas := 0, sNull := 0, sWhole := 0, sThings := 0, sAt := 0, sUvar := 0, sFixed := 0, sWidth := 0, sCounted := 0, sValue := 0, sField := 0, sUsual := 0, sKnown := 0, sUnknown := 0, sPart := 0, sDefault := 0, sWrite := 0, sKept := 0, sSame := 7, lVersion := 6, tTagMap := 40, tU32s := 95, tFnTag := 87, tFnLess := 97, tAny := 20, gAll := 54, gEach1 := 55, gAll1 := 64, gSet := 61, sortSlice := 63, rUvar := 57, rSpan := 60, rU64 := 0, kUv := 65, kUs := 59, bU16 := 58, bU32 := 56, bU64 := 0, f64b := 0, f64f := 0, tBE := 89, tUvR := 98, vErr := 1, vBE := 0 }
theorem tu {Q : Program} {f : FuncId} {fn : Func} {np nt : Nat} {res : Array ResultVar} {c : Code} (h : Q.funcs[f]? = some fn) (hb : (fn.body.map bare, fn.ntmps, fn.results, fn.name != "runtime.NumGoroutine") = (some c, nt, res, true) := by kernel_rfl) : Text Q f np nt res c := ⟨fn, h, (Prod.mk.inj hb).1, (Prod.mk.inj (Prod.mk.inj hb).2).1, (Prod.mk.inj (Prod.mk.inj (Prod.mk.inj hb).2).2).1, by simpa using (Prod.mk.inj (Prod.mk.inj (Prod.mk.inj hb).2).2).2⟩
theorem tt {Q : Program} {f : FuncId} {fn : Func} {np nt : Nat} {res : Array ResultVar} {c : Code} (h : Q.funcs[f]? = some fn) (hb : fn.body.map bare = some c) (hn : fn.ntmps = nt) (hr : fn.results = res) (hne : fn.name ≠ "runtime.NumGoroutine") : Text Q f np nt res c := ⟨fn, h, hb, hn, hr, hne⟩
theorem kt : KTexts Tryd.prog E where
  wBool := fun _ => (tu Tryd.func22)
  wI8 := fun h => absurd rfl h
  wI16 := fun _ => (tu Tryd.func18)
  wU16 := fun _ => (tu Tryd.func52)
  wI32 := fun _ => (tu Tryd.func15)
  wU32 := fun _ => (tu Tryd.func51)
  wI64 := fun h => absurd rfl h
  wU64 := fun h => absurd rfl h
  wUuid := fun _ => (tu Tryd.func21)
  wStr := fun _ => (tu Tryd.func29)
  wCStr := fun _ => (tu Tryd.func28)
  wNStr := fun _ => (tu Tryd.func20)
  wCNStr := fun _ => (tu Tryd.func19)
  wBytes := fun h => absurd rfl h
  wCBytes := fun h => absurd rfl h
  wNBytes := fun h => absurd rfl h
  wCNBytes := fun h => absurd rfl h
  wLen := fun _ => (tu Tryd.func17)
  wCLen := fun _ => (tu Tryd.func16)
  wNLen := fun _ => (tu Tryd.func24)
  wCNLen := fun _ => (tu Tryd.func23)
  uvLen := fun _ => (tu Tryd.func53)
  len32 := fun _ => (tu Tryd.func62)
  wUvarint := fun _ => (tu Tryd.func25)
  tLen := fun _ => (tu Tryd.func26)
  tEach := fun _ => (tu Tryd.func27)
  gAll := fun _ => (tu Tryd.func54)
theorem rt : RTexts Tryd.prog E where
  mixed := (by kernel_rfl)
  row := (by kernel_rfl)
  u8 := (by kernel_rfl)
  int := (by kernel_rfl)
  oBytes := (by kernel_rfl)
  oBool := (by kernel_rfl)
  oU8 := (by kernel_rfl)
  f0 := (by kernel_rfl)
  f1 := (by kernel_rfl)
  i32 := (by kernel_rfl)
  oE := (by kernel_rfl)
  rOk := (tu Tryd.func33)
  rComplete := (tu Tryd.func34)
  rI8 := fun _ => ⟨(by kernel_rfl), (tu Tryd.func45)⟩
  rBool := fun _ => (tu Tryd.func42)
  rI16 := fun _ => ⟨(by kernel_rfl), (by kernel_rfl), (by kernel_rfl), (tu Tryd.func58), (tu Tryd.func36)⟩
  rU16 := fun h => absurd rfl h
  rI32 := fun _ => ⟨(by kernel_rfl), (by kernel_rfl), (tu Tryd.func56), (tu Tryd.func30)⟩
  rI64 := fun h => absurd rfl h
  rUvar := fun _ => ⟨(by kernel_rfl), (tu Tryd.func65), (tu Tryd.func57)⟩
  rSpan := fun _ => (tu Tryd.func60)
  rStr := fun _ => ⟨(by kernel_rfl), (by decide), (by decide), (tu Tryd.func50)⟩
  rCStr := fun _ => ⟨(by kernel_rfl), (by decide), (by decide), (tu Tryd.func49)⟩
  rNStr := fun _ => ⟨(by kernel_rfl), (by kernel_rfl), (by kernel_rfl), (by decide), (by decide), (tu Tryd.func40)⟩
  rCNStr := fun _ => ⟨(by kernel_rfl), (by kernel_rfl), (by kernel_rfl), (by decide), (by decide), (tu Tryd.func38)⟩
  rBytes := fun h => absurd rfl h
  rCBytes := fun h => absurd rfl h
  rNBytes := fun h => absurd rfl h
  rCNBytes := fun h => absurd rfl h
  rLen := fun _ => ⟨(by decide), (tu Tryd.func32)⟩
  rCLen := fun _ => ⟨(by decide), (tu Tryd.func31)⟩
def sl6_ren : Go.Shelf.Ren := ⟨fun | 6 => 63 | 10 => 66 | 11 => 67 | 12 => 68 | 13 => 69 | 14 => 70 | 24 => 62 | 25 => 80 | 26 => 81 | 27 => 82 | 28 => 83 | 29 => 84 | 30 => 85 | 31 => 86 | 32 => 87 | 33 => 88 | 34 => 89 | 35 => 90 | 36 => 91 | 37 => 92 | 38 => 93 | 39 => 94 | n => n, fun | 20 => 20 | 26 => 97 | 35 => 103 | 0 => 0 | 37 => 105 | 3 => 3 | 41 => 84 | 44 => 110 | 49 => 64 | 51 => 115 | 4 => 4 | 54 => 118 | 53 => 117 | 58 => 122 | 5 => 5 | 9 => 9 | 60 => 124 | 64 => 128 | 66 => 130 | 67 => 131 | 17 => 17 | 32 => 100 | 33 => 101 | 82 => 146 | 12 => 12 | 75 => 139 | 76 => 140 | 77 => 141 | 78 => 142 | 79 => 143 | 80 => 144 | n => n, fun | n => n⟩
theorem sl6 : Go.Proofs.LaysGg.n6 Tryd.prog sl6_ren where
  mixed := by kernel_rfl
  f6 := Tryd.func63.trans (congrArg some (by kernel_rfl))
  f10 := Tryd.func66.trans (congrArg some (by kernel_rfl))
  f11 := Tryd.func67.trans (congrArg some (by kernel_rfl))
  f12 := Tryd.func68.trans (congrArg some (by kernel_rfl))
  f13 := Tryd.func69.trans (congrArg some (by kernel_rfl))
  f14 := Tryd.func70.trans (congrArg some (by kernel_rfl))
  f24 := Tryd.func62.trans (congrArg some (by kernel_rfl))
  f25 := Tryd.func80.trans (congrArg some (by kernel_rfl))
  f26 := Tryd.func81.trans (congrArg some (by kernel_rfl))
  f27 := Tryd.func82.trans (congrArg some (by kernel_rfl))
  f28 := Tryd.func83.trans (congrArg some (by kernel_rfl))
  f29 := Tryd.func84.trans (congrArg some (by kernel_rfl))
  f30 := Tryd.func85.trans (congrArg some (by kernel_rfl))
  f31 := Tryd.func86.trans (congrArg some (by kernel_rfl))
  f32 := Tryd.func87.trans (congrArg some (by kernel_rfl))
  f33 := Tryd.func88.trans (congrArg some (by kernel_rfl))
  f34 := Tryd.func89.trans (congrArg some (by kernel_rfl))
  f35 := Tryd.func90.trans (congrArg some (by kernel_rfl))
  f36 := Tryd.func91.trans (congrArg some (by kernel_rfl))
  f37 := Tryd.func92.trans (congrArg some (by kernel_rfl))
  f38 := Tryd.func93.trans (congrArg some (by kernel_rfl))
  f39 := Tryd.func94.trans (congrArg some (by kernel_rfl))
  t0 := Tryd.underlying0
  a0 := Tryd.isAgg0
  z0 := Tryd.sizeOf0
  v0 := Tryd.zeroValue0
  i0 := by kernel_rfl
  t3 := Tryd.underlying3
  a3 := Tryd.isAgg3
  z3 := Tryd.sizeOf3
  v3 := Tryd.zeroValue3
  i3 := by kernel_rfl
  t4 := Tryd.underlying4
  a4 := Tryd.isAgg4
  z4 := Tryd.sizeOf4
  v4 := Tryd.zeroValue4
  i4 := by kernel_rfl
  t5 := Tryd.underlying5
  a5 := Tryd.isAgg5
  z5 := Tryd.sizeOf5
  v5 := Tryd.zeroValue5
  i5 := by kernel_rfl
  t9 := Tryd.underlying9
  a9 := Tryd.isAgg9
  z9 := Tryd.sizeOf9
  v9 := Tryd.zeroValue9
  i9 := by kernel_rfl
  t12 := Tryd.underlying12
  a12 := Tryd.isAgg12
  z12 := Tryd.sizeOf12
  v12 := Tryd.zeroValue12
  i12 := by kernel_rfl
  t17 := Tryd.underlying17
  a17 := Tryd.isAgg17
  z17 := Tryd.sizeOf17
  v17 := Tryd.zeroValue17
  i17 := by kernel_rfl
  t20 := Tryd.underlying20
  a20 := Tryd.isAgg20
  z20 := Tryd.sizeOf20
  v20 := Tryd.zeroValue20
  i20 := by kernel_rfl
  t26 := Tryd.underlying97
  a26 := Tryd.isAgg97
  z26 := Tryd.sizeOf97
  v26 := Tryd.zeroValue97
  i26 := by kernel_rfl
  t32 := Tryd.underlying100
  a32 := Tryd.isAgg100
  z32 := Tryd.sizeOf100
  v32 := Tryd.zeroValue100
  i32 := by kernel_rfl
  t33 := Tryd.underlying101
  a33 := Tryd.isAgg101
  z33 := Tryd.sizeOf101
  v33 := Tryd.zeroValue101
  i33 := by kernel_rfl
  t35 := Tryd.underlying103
  a35 := Tryd.isAgg103
  z35 := Tryd.sizeOf103
  v35 := Tryd.zeroValue103
  i35 := by kernel_rfl
  t37 := Tryd.underlying105
  a37 := Tryd.isAgg105
  z37 := Tryd.sizeOf105
  v37 := Tryd.zeroValue105
  i37 := by kernel_rfl
  t41 := Tryd.underlying84
  a41 := Tryd.isAgg84
  z41 := Tryd.sizeOf84
  v41 := Tryd.zeroValue84
  i41 := by kernel_rfl
  t44 := Tryd.underlying110
  a44 := Tryd.isAgg110
  z44 := Tryd.sizeOf110
  v44 := Tryd.zeroValue110
  i44 := by kernel_rfl
  t49 := Tryd.underlying64
  a49 := Tryd.isAgg64
  z49 := Tryd.sizeOf64
  v49 := Tryd.zeroValue64
  i49 := by kernel_rfl
  t51 := Tryd.underlying115
  a51 := Tryd.isAgg115
  z51 := Tryd.sizeOf115
  v51 := Tryd.zeroValue115
  i51 := by kernel_rfl
  t53 := Tryd.underlying117
  a53 := Tryd.isAgg117
  z53 := Tryd.sizeOf117
  v53 := Tryd.zeroValue117
  i53 := by kernel_rfl
  t54 := Tryd.underlying118
  a54 := Tryd.isAgg118
  z54 := Tryd.sizeOf118
  v54 := Tryd.zeroValue118
  i54 := by kernel_rfl
  t58 := Tryd.underlying122
  a58 := Tryd.isAgg122
  z58 := Tryd.sizeOf122
  v58 := Tryd.zeroValue122
  i58 := by kernel_rfl
  t60 := Tryd.underlying124
  a60 := Tryd.isAgg124
  z60 := Tryd.sizeOf124
  v60 := Tryd.zeroValue124
  i60 := by kernel_rfl
  t64 := Tryd.underlying128
  a64 := Tryd.isAgg128
  z64 := Tryd.sizeOf128
  v64 := Tryd.zeroValue128
  i64 := by kernel_rfl
  t66 := Tryd.underlying130
  a66 := Tryd.isAgg130
  z66 := Tryd.sizeOf130
  v66 := Tryd.zeroValue130
  i66 := by kernel_rfl
  t67 := Tryd.underlying131
  a67 := Tryd.isAgg131
  z67 := Tryd.sizeOf131
  v67 := Tryd.zeroValue131
  i67 := by kernel_rfl
  t75 := Tryd.underlying139
  a75 := Tryd.isAgg139
  z75 := Tryd.sizeOf139
  v75 := Tryd.zeroValue139
  i75 := by kernel_rfl
  t76 := Tryd.underlying140
  a76 := Tryd.isAgg140
  z76 := Tryd.sizeOf140
  v76 := Tryd.zeroValue140
  i76 := by kernel_rfl
  t77 := Tryd.underlying141
  a77 := Tryd.isAgg141
  z77 := Tryd.sizeOf141
  v77 := Tryd.zeroValue141
  i77 := by kernel_rfl
  t78 := Tryd.underlying142
  a78 := Tryd.isAgg142
  z78 := Tryd.sizeOf142
  v78 := Tryd.zeroValue142
  i78 := by kernel_rfl
  t79 := Tryd.underlying143
  a79 := Tryd.isAgg143
  z79 := Tryd.sizeOf143
  v79 := Tryd.zeroValue143
  i79 := by kernel_rfl
  t80 := Tryd.underlying144
  a80 := Tryd.isAgg144
  z80 := Tryd.sizeOf144
  v80 := Tryd.zeroValue144
  i80 := by kernel_rfl
  t82 := Tryd.underlying146
  a82 := Tryd.isAgg146
  z82 := Tryd.sizeOf146
  v82 := Tryd.zeroValue146
  i82 := by kernel_rfl
theorem tT : TagT Tryd.prog E := ⟨by kernel_rfl, by kernel_rfl, by kernel_rfl, by kernel_rfl, by kernel_rfl, by kernel_rfl⟩
theorem sE : SortE Tryd.prog E where
  mixed := by kernel_rfl
  row := by kernel_rfl
  oU32s := by kernel_rfl
  zU32s := by kernel_rfl
  oU32 := by kernel_rfl
  iu := by kernel_rfl
  L := ⟨sl6_ren, sl6, rfl⟩
  enters := Go.Proofs.enters_of Tryd.func63 (by kernel_rfl) rfl
  info := ⟨Tryd.t95, Tryd.t64, by kernel_rfl, by kernel_rfl, by kernel_rfl, by kernel_rfl, by kernel_rfl, by kernel_rfl, by kernel_rfl⟩
  kind := fun _ => by kernel_rfl
  sw2 := ⟨72, by kernel_rfl⟩
  sw6 := ⟨76, true, by kernel_rfl, fun args W => run_callFunc_extern Tryd.func76 (by kernel_rfl) (by kernel_rfl) (by kernel_rfl) (e := Extern.ReflectliteSwapper.swap true) (by kernel_rfl) args W⟩
  less := (tu Tryd.func64)
theorem tg : TTexts Tryd.prog E := ⟨tT, sE, (tu Tryd.func55), by decide⟩
theorem tr : TagsR Tryd.prog E (fun _ => True) := tagsR tT sE.iu rt.int (fun _ => rt.cU (by decide)) (fun _ => rt.cS (by decide)) (fun _ => (tu Tryd.func61)) (fun _ => (tu Tryd.func44))
theorem ew : EnvW Tryd.prog E (fun _ => True) := envWT kt (by kernel_rfl) tg
theorem ur : UuidR Tryd.prog E := uuidR rt.env rt.mixed (by kernel_rfl) (by kernel_rfl) (by kernel_rfl) (fun _ => rt.cS (by decide)) (fun _ => (tu Tryd.func41))
theorem ei : EnvI Tryd.prog E := ⟨by kernel_rfl, by kernel_rfl⟩
theorem er : EnvR Tryd.prog E (fun _ => True) := envR rt (by decide) ur tr
theorem rx : EnvRX Tryd.prog E := ⟨by kernel_rfl, by kernel_rfl, by kernel_rfl⟩
theorem lv : Text Tryd.prog E.lVersion 2 10 #[.tmp 4] (c_lVersion E) := (tu Tryd.func6)
theorem sm : Text Tryd.prog E.sSame 2 26 #[.tmp 4] (c_sSame E) := (tu Tryd.func7)
theorem i16k : intT Tryd.prog E.tI16 = some .i16 := by kernel_rfl
theorem ik : intT Tryd.prog E.tI = some .i64 := by kernel_rfl
theorem o16 : oneT Tryd.prog E.tI16 = true := by kernel_rfl
theorem ifE : ifaceT Tryd.prog E.tErr = true := by kernel_rfl
theorem lf : Tryd.prog.liftsFinal = false := by kernel_rfl
theorem me : Tryd.prog.mayEnter = true := by kernel_rfl
theorem lo : laidOutB Tryd.prog = true := by kernel_rfl
theorem own : ownKnob Tryd.prog.godebug = none := by kernel_rfl
end Go.Proofs.YtncnmjgieegjcaaDoor
