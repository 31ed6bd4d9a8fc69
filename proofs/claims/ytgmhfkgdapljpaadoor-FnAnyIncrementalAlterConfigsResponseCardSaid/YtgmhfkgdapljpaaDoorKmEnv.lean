/- The numbers of this translation; its functions of kbin have the texts that the contracts are about; its types are laid as they ask. -/
import Derived.Test.YtgmhfkgdapljpaaDoorKb00
import Derived.Test.YtgmhfkgdapljpaaDoorKb01
import Derived.Test.YtgmhfkgdapljpaaDoorKb02
import Derived.Test.YtgmhfkgdapljpaaDoorKb03
import Derived.Test.YtgmhfkgdapljpaaDoorKb04
import Derived.Test.YtgmhfkgdapljpaaDoorRows
set_option linter.unusedVariables false
namespace Go.Proofs.YtgmhfkgdapljpaaDoor
open Go Go.Km
def E : Env := { tErr := 35, tI8 := 53, tI16 := 29, tI32 := 21, tI64 := 2, tU8 := 5, tU16 := 89, tW := 62, tU64 := 98, tO := 4, tF64 := 0, tI := 3, tStr := 9, tPStr := 52, tB := 22, tUuid := 67, tTags := 45, tPTags := 92, tRd := 79, tPRd := 87, rI8 := 60, rI16 := 55, rI32 := 49, rI64 := 74, rU16 := 0, rBool := 0, rF64 := 0, rUuid := 72, rStr := 64, rUStr := 62, rCStr := 63, rUCStr := 61, rNStr := 59, rUNStr := 58, rCNStr := 57, rUCNStr := 56, rBytes := 0, rCBytes := 0, rNBytes := 0, rCNBytes := 0, rLen := 51, rCLen := 50, rOk := 52, rComplete := 53, rTags := 65, wI8 := 37, wI16 := 34, wI32 := 31, wI64 := 48, wU16 := 67, wBool := 0, wF64 := 0, wUuid := 45, wStr := 39, wCStr := 38, wNStr := 36, wCNStr := 35, wBytes := 0, wCBytes := 0, wNBytes := 0, wCNBytes := 0, wLen := 33, wCLen := 32, wNLen := 0, wCNLen := 0, wUvarint := 40, tLen := 41, tEach := 42, tUint := 91, tFld := 0, tFlds := 0, tT := 0, tS := 0, tUnk := 0, tK := 0, tMsg := 0, wU32 := 66, wU64 := 75, uvLen := 68, len32 := 82, sHas := 0, sNull := 0, sWhole := 0, sThings := 0, sAt := 0, sUvar := 0, sFixed := 0, sWidth := 0, sCounted := 0, sValue := 0, sField := 0, sUsual := 0, sKnown := 0, sUnknown := 0, sPart := 0, sDefault := 0, sWrite := 0, sKept := 0, sSame := 9, lVersion := 8, tTagMap := 43, tU32s := 106, tFnTag := 94, tFnLess := 108, tAny := 20, gAll := 69, gEach1 := 70, gAll1 := 84, gSet := 81, sortSlice := 83, rUvar := 77, rSpan := 80, rU64 := 85, kUv := 86, kUs := 79, bU16 := 78, bU32 := 76, bU64 := 92, f64b := 0, f64f := 0, tBE := 100, tUvR := 110, vErr := 1, vBE := 0 }
theorem tu {Q : Program} {f : FuncId} {fn : Func} {np nt : Nat} {res : Array ResultVar} {c : Code} (h : Q.funcs[f]? = some fn) (hb : (fn.body.map bare, fn.ntmps, fn.results, fn.name != "runtime.NumGoroutine") = (some c, nt, res, true)) : Text Q f np nt res c := ⟨fn, h, (Prod.mk.inj hb).1, (Prod.mk.inj (Prod.mk.inj hb).2).1, (Prod.mk.inj (Prod.mk.inj (Prod.mk.inj hb).2).2).1, by simpa using (Prod.mk.inj (Prod.mk.inj (Prod.mk.inj hb).2).2).2⟩
theorem tt {Q : Program} {f : FuncId} {fn : Func} {np nt : Nat} {res : Array ResultVar} {c : Code} (h : Q.funcs[f]? = some fn) (hb : fn.body.map bare = some c) (hn : fn.ntmps = nt) (hr : fn.results = res) (hne : fn.name ≠ "runtime.NumGoroutine") : Text Q f np nt res c := ⟨fn, h, hb, hn, hr, hne⟩
theorem kt : KTexts Tryd.prog E where
  wBool := fun h => absurd rfl h
  wI8 := fun _ => (tu Tryd.func37 (by kernel_rfl))
  wI16 := fun _ => (tu Tryd.func34 (by kernel_rfl))
  wU16 := fun _ => (tu Tryd.func67 (by kernel_rfl))
  wI32 := fun _ => (tu Tryd.func31 (by kernel_rfl))
  wU32 := fun _ => (tu Tryd.func66 (by kernel_rfl))
  wI64 := fun _ => (tu Tryd.func48 (by kernel_rfl))
  wU64 := fun _ => (tu Tryd.func75 (by kernel_rfl))
  wUuid := fun _ => (tu Tryd.func45 (by kernel_rfl))
  wStr := fun _ => (tu Tryd.func39 (by kernel_rfl))
  wCStr := fun _ => (tu Tryd.func38 (by kernel_rfl))
  wNStr := fun _ => (tu Tryd.func36 (by kernel_rfl))
  wCNStr := fun _ => (tu Tryd.func35 (by kernel_rfl))
  wBytes := fun h => absurd rfl h
  wCBytes := fun h => absurd rfl h
  wNBytes := fun h => absurd rfl h
  wCNBytes := fun h => absurd rfl h
  wLen := fun _ => (tu Tryd.func33 (by kernel_rfl))
  wCLen := fun _ => (tu Tryd.func32 (by kernel_rfl))
  wNLen := fun h => absurd rfl h
  wCNLen := fun h => absurd rfl h
  uvLen := fun _ => (tu Tryd.func68 (by kernel_rfl))
  len32 := fun _ => (tu Tryd.func82 (by kernel_rfl))
  wUvarint := fun _ => (tu Tryd.func40 (by kernel_rfl))
  tLen := fun _ => (tu Tryd.func41 (by kernel_rfl))
  tEach := fun _ => (tu Tryd.func42 (by kernel_rfl))
  gAll := fun _ => (tu Tryd.func69 (by kernel_rfl))
theorem rt : RTexts Tryd.prog E where
  mixed := (by kernel_rfl)
  row := (by kernel_rfl)
  u8 := (by kernel_rfl)
  int := (by kernel_rfl)
  oBytes := (by kernel_rfl)
  oBool := (by kernel_rfl)
  oU8 := (by kernel_rfl)
  f0 := (by kernel_rfl)
  f1 := (by kernel_rfl)
  i32 := (by kernel_rfl)
  oE := (by kernel_rfl)
  rOk := (tu Tryd.func52 (by kernel_rfl))
  rComplete := (tu Tryd.func53 (by kernel_rfl))
  rI8 := fun _ => ⟨(by kernel_rfl), (tu Tryd.func60 (by kernel_rfl))⟩
  rBool := fun h => absurd rfl h
  rI16 := fun _ => ⟨(by kernel_rfl), (by kernel_rfl), (by kernel_rfl), (tu Tryd.func78 (by kernel_rfl)), (tu Tryd.func55 (by kernel_rfl))⟩
  rU16 := fun h => absurd rfl h
  rI32 := fun _ => ⟨(by kernel_rfl), (by kernel_rfl), (tu Tryd.func76 (by kernel_rfl)), (tu Tryd.func49 (by kernel_rfl))⟩
  rI64 := fun _ => ⟨(by kernel_rfl), (by kernel_rfl), (by kernel_rfl), (tu Tryd.func92 (by kernel_rfl)), (tu Tryd.func85 (by kernel_rfl)), (tu Tryd.func74 (by kernel_rfl))⟩
  rUvar := fun _ => ⟨(by kernel_rfl), (tu Tryd.func86 (by kernel_rfl)), (tu Tryd.func77 (by kernel_rfl))⟩
  rSpan := fun _ => (tu Tryd.func80 (by kernel_rfl))
  rStr := fun _ => ⟨(by kernel_rfl), (by decide), (by decide), (tu Tryd.func64 (by kernel_rfl))⟩
  rCStr := fun _ => ⟨(by kernel_rfl), (by decide), (by decide), (tu Tryd.func63 (by kernel_rfl))⟩
  rNStr := fun _ => ⟨(by kernel_rfl), (by kernel_rfl), (by kernel_rfl), (by decide), (by decide), (tu Tryd.func59 (by kernel_rfl))⟩
  rCNStr := fun _ => ⟨(by kernel_rfl), (by kernel_rfl), (by kernel_rfl), (by decide), (by decide), (tu Tryd.func57 (by kernel_rfl))⟩
  rBytes := fun h => absurd rfl h
  rCBytes := fun h => absurd rfl h
  rNBytes := fun h => absurd rfl h
  rCNBytes := fun h => absurd rfl h
  rLen := fun _ => ⟨(by decide), (tu Tryd.func51 (by kernel_rfl))⟩
  rCLen := fun _ => ⟨(by decide), (tu Tryd.func50 (by kernel_rfl))⟩
def sl6_ren : Go.Shelf.Ren := ⟨fun | 6 => 83 | 10 => 87 | 11 => 88 | 12 => 89 | 13 => 90 | 14 => 91 | 24 => 82 | 25 => 102 | 26 => 103 | 27 => 104 | 28 => 105 | 29 => 106 | 30 => 107 | 31 => 108 | 32 => 109 | 33 => 110 | 34 => 111 | 35 => 112 | 36 => 113 | 37 => 114 | 38 => 115 | 39 => 116 | n => n, fun | 20 => 20 | 26 => 108 | 35 => 115 | 0 => 0 | 37 => 117 | 3 => 3 | 41 => 91 | 44 => 122 | 49 => 62 | 51 => 98 | 4 => 4 | 54 => 130 | 53 => 129 | 58 => 134 | 5 => 5 | 9 => 9 | 60 => 136 | 64 => 139 | 66 => 141 | 67 => 142 | 17 => 17 | 32 => 112 | 33 => 113 | 82 => 157 | 12 => 12 | 75 => 150 | 76 => 151 | 77 => 152 | 78 => 153 | 79 => 154 | 80 => 155 | n => n, fun | n => n⟩
theorem sl6 : Go.Proofs.LaysGg.n6 Tryd.prog sl6_ren where
  mixed := by kernel_rfl
  f6 := Tryd.func83.trans (congrArg some (by kernel_rfl))
  f10 := Tryd.func87.trans (congrArg some (by kernel_rfl))
  f11 := Tryd.func88.trans (congrArg some (by kernel_rfl))
  f12 := Tryd.func89.trans (congrArg some (by kernel_rfl))
  f13 := Tryd.func90.trans (congrArg some (by kernel_rfl))
  f14 := Tryd.func91.trans (congrArg some (by kernel_rfl))
  f24 := Tryd.func82.trans (congrArg some (by kernel_rfl))
  f25 := Tryd.func102.trans (congrArg some (by kernel_rfl))
  f26 := Tryd.func103.trans (congrArg some (by kernel_rfl))
  f27 := Tryd.func104.trans (congrArg some (by kernel_rfl))
  f28 := Tryd.func105.trans (congrArg some (by kernel_rfl))
  f29 := Tryd.func106.trans (congrArg some (by kernel_rfl))
  f30 := Tryd.func107.trans (congrArg some (by kernel_rfl))
  f31 := Tryd.func108.trans (congrArg some (by kernel_rfl))
  f32 := Tryd.func109.trans (congrArg some (by kernel_rfl))
  f33 := Tryd.func110.trans (congrArg some (by kernel_rfl))
  f34 := Tryd.func111.trans (congrArg some (by kernel_rfl))
  f35 := Tryd.func112.trans (congrArg some (by kernel_rfl))
  f36 := Tryd.func113.trans (congrArg some (by kernel_rfl))
  f37 := Tryd.func114.trans (congrArg some (by kernel_rfl))
  f38 := Tryd.func115.trans (congrArg some (by kernel_rfl))
  f39 := Tryd.func116.trans (congrArg some (by kernel_rfl))
  t0 := Tryd.underlying0
  a0 := Tryd.isAgg0
  z0 := Tryd.sizeOf0
  v0 := Tryd.zeroValue0
  i0 := by kernel_rfl
  t3 := Tryd.underlying3
  a3 := Tryd.isAgg3
  z3 := Tryd.sizeOf3
  v3 := Tryd.zeroValue3
  i3 := by kernel_rfl
  t4 := Tryd.underlying4
  a4 := Tryd.isAgg4
  z4 := Tryd.sizeOf4
  v4 := Tryd.zeroValue4
  i4 := by kernel_rfl
  t5 := Tryd.underlying5
  a5 := Tryd.isAgg5
  z5 := Tryd.sizeOf5
  v5 := Tryd.zeroValue5
  i5 := by kernel_rfl
  t9 := Tryd.underlying9
  a9 := Tryd.isAgg9
  z9 := Tryd.sizeOf9
  v9 := Tryd.zeroValue9
  i9 := by kernel_rfl
  t12 := Tryd.underlying12
  a12 := Tryd.isAgg12
  z12 := Tryd.sizeOf12
  v12 := Tryd.zeroValue12
  i12 := by kernel_rfl
  t17 := Tryd.underlying17
  a17 := Tryd.isAgg17
  z17 := Tryd.sizeOf17
  v17 := Tryd.zeroValue17
  i17 := by kernel_rfl
  t20 := Tryd.underlying20
  a20 := Tryd.isAgg20
  z20 := Tryd.sizeOf20
  v20 := Tryd.zeroValue20
  i20 := by kernel_rfl
  t26 := Tryd.underlying108
  a26 := Tryd.isAgg108
  z26 := Tryd.sizeOf108
  v26 := Tryd.zeroValue108
  i26 := by kernel_rfl
  t32 := Tryd.underlying112
  a32 := Tryd.isAgg112
  z32 := Tryd.sizeOf112
  v32 := Tryd.zeroValue112
  i32 := by kernel_rfl
  t33 := Tryd.underlying113
  a33 := Tryd.isAgg113
  z33 := Tryd.sizeOf113
  v33 := Tryd.zeroValue113
  i33 := by kernel_rfl
  t35 := Tryd.underlying115
  a35 := Tryd.isAgg115
  z35 := Tryd.sizeOf115
  v35 := Tryd.zeroValue115
  i35 := by kernel_rfl
  t37 := Tryd.underlying117
  a37 := Tryd.isAgg117
  z37 := Tryd.sizeOf117
  v37 := Tryd.zeroValue117
  i37 := by kernel_rfl
  t41 := Tryd.underlying91
  a41 := Tryd.isAgg91
  z41 := Tryd.sizeOf91
  v41 := Tryd.zeroValue91
  i41 := by kernel_rfl
  t44 := Tryd.underlying122
  a44 := Tryd.isAgg122
  z44 := Tryd.sizeOf122
  v44 := Tryd.zeroValue122
  i44 := by kernel_rfl
  t49 := Tryd.underlying62
  a49 := Tryd.isAgg62
  z49 := Tryd.sizeOf62
  v49 := Tryd.zeroValue62
  i49 := by kernel_rfl
  t51 := Tryd.underlying98
  a51 := Tryd.isAgg98
  z51 := Tryd.sizeOf98
  v51 := Tryd.zeroValue98
  i51 := by kernel_rfl
  t53 := Tryd.underlying129
  a53 := Tryd.isAgg129
  z53 := Tryd.sizeOf129
  v53 := Tryd.zeroValue129
  i53 := by kernel_rfl
  t54 := Tryd.underlying130
  a54 := Tryd.isAgg130
  z54 := Tryd.sizeOf130
  v54 := Tryd.zeroValue130
  i54 := by kernel_rfl
  t58 := Tryd.underlying134
  a58 := Tryd.isAgg134
  z58 := Tryd.sizeOf134
  v58 := Tryd.zeroValue134
  i58 := by kernel_rfl
  t60 := Tryd.underlying136
  a60 := Tryd.isAgg136
  z60 := Tryd.sizeOf136
  v60 := Tryd.zeroValue136
  i60 := by kernel_rfl
  t64 := Tryd.underlying139
  a64 := Tryd.isAgg139
  z64 := Tryd.sizeOf139
  v64 := Tryd.zeroValue139
  i64 := by kernel_rfl
  t66 := Tryd.underlying141
  a66 := Tryd.isAgg141
  z66 := Tryd.sizeOf141
  v66 := Tryd.zeroValue141
  i66 := by kernel_rfl
  t67 := Tryd.underlying142
  a67 := Tryd.isAgg142
  z67 := Tryd.sizeOf142
  v67 := Tryd.zeroValue142
  i67 := by kernel_rfl
  t75 := Tryd.underlying150
  a75 := Tryd.isAgg150
  z75 := Tryd.sizeOf150
  v75 := Tryd.zeroValue150
  i75 := by kernel_rfl
  t76 := Tryd.underlying151
  a76 := Tryd.isAgg151
  z76 := Tryd.sizeOf151
  v76 := Tryd.zeroValue151
  i76 := by kernel_rfl
  t77 := Tryd.underlying152
  a77 := Tryd.isAgg152
  z77 := Tryd.sizeOf152
  v77 := Tryd.zeroValue152
  i77 := by kernel_rfl
  t78 := Tryd.underlying153
  a78 := Tryd.isAgg153
  z78 := Tryd.sizeOf153
  v78 := Tryd.zeroValue153
  i78 := by kernel_rfl
  t79 := Tryd.underlying154
  a79 := Tryd.isAgg154
  z79 := Tryd.sizeOf154
  v79 := Tryd.zeroValue154
  i79 := by kernel_rfl
  t80 := Tryd.underlying155
  a80 := Tryd.isAgg155
  z80 := Tryd.sizeOf155
  v80 := Tryd.zeroValue155
  i80 := by kernel_rfl
  t82 := Tryd.underlying157
  a82 := Tryd.isAgg157
  z82 := Tryd.sizeOf157
  v82 := Tryd.zeroValue157
  i82 := by kernel_rfl
theorem tT : TagT Tryd.prog E := ⟨by kernel_rfl, by kernel_rfl, by kernel_rfl, by kernel_rfl, by kernel_rfl, by kernel_rfl⟩
theorem sE : SortE Tryd.prog E where
  mixed := by kernel_rfl
  row := by kernel_rfl
  oU32s := by kernel_rfl
  zU32s := by kernel_rfl
  oU32 := by kernel_rfl
  iu := by kernel_rfl
  L := ⟨sl6_ren, sl6, rfl⟩
  enters := Go.Proofs.enters_of Tryd.func83 (by kernel_rfl) rfl
  info := ⟨Tryd.t106, Tryd.t62, by kernel_rfl, by kernel_rfl, by kernel_rfl, by kernel_rfl, by kernel_rfl, by kernel_rfl, by kernel_rfl⟩
  kind := fun _ => by kernel_rfl
  sw2 := ⟨94, by kernel_rfl⟩
  sw6 := ⟨98, true, by kernel_rfl, fun args W => run_callFunc_extern Tryd.func98 (by kernel_rfl) (by kernel_rfl) (by kernel_rfl) (e := Extern.ReflectliteSwapper.swap true) (by kernel_rfl) args W⟩
  less := (tu Tryd.func84 (by kernel_rfl))
theorem tg : TTexts Tryd.prog E := ⟨tT, sE, (tu Tryd.func70 (by kernel_rfl)), by decide⟩
theorem tr : TagsR Tryd.prog E (fun _ => True) := tagsR tT sE.iu rt.int (fun _ => rt.cU (by decide)) (fun _ => rt.cS (by decide)) (fun _ => (tu Tryd.func81 (by kernel_rfl))) (fun _ => (tu Tryd.func65 (by kernel_rfl)))
theorem ew : EnvW Tryd.prog E (fun _ => True) := envWT kt (by kernel_rfl) tg
theorem ur : UuidR Tryd.prog E := uuidR rt.env rt.mixed (by kernel_rfl) (by kernel_rfl) (by kernel_rfl) (fun _ => rt.cS (by decide)) (fun _ => (tu Tryd.func72 (by kernel_rfl)))
theorem ei : EnvI Tryd.prog E := ⟨by kernel_rfl, by kernel_rfl⟩
theorem er : EnvR Tryd.prog E (fun _ => True) := envR rt (by decide) ur tr
theorem rx : EnvRX Tryd.prog E := ⟨by kernel_rfl, by kernel_rfl, by kernel_rfl⟩
theorem lv : Text Tryd.prog E.lVersion 2 10 #[.tmp 4] (c_lVersion E) := (tu Tryd.func8 (by kernel_rfl))
theorem sm : Text Tryd.prog E.sSame 2 26 #[.tmp 4] (c_sSame E) := (tu Tryd.func9 (by kernel_rfl))
theorem i16k : intT Tryd.prog E.tI16 = some .i16 := by kernel_rfl
theorem ik : intT Tryd.prog E.tI = some .i64 := by kernel_rfl
theorem o16 : oneT Tryd.prog E.tI16 = true := by kernel_rfl
theorem ifE : ifaceT Tryd.prog E.tErr = true := by kernel_rfl
theorem lf : Tryd.prog.liftsFinal = false := by kernel_rfl
theorem me : Tryd.prog.mayEnter = true := by kernel_rfl
theorem lo : laidOutB Tryd.prog = true := by kernel_rfl
theorem own : ownKnob Tryd.prog.godebug = none := by kernel_rfl
end Go.Proofs.YtgmhfkgdapljpaaDoor
