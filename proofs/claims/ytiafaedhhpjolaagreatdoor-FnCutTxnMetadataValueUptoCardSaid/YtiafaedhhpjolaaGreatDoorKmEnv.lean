/- The numbers of this translation; its functions of kbin have the texts that the contracts are about; its types are laid as they ask. -/
import Derived.Test.YtiafaedhhpjolaaGreatDoorKb00
import Derived.Test.YtiafaedhhpjolaaGreatDoorKb01
import Derived.Test.YtiafaedhhpjolaaGreatDoorKb02
import Derived.Test.YtiafaedhhpjolaaGreatDoorKb03
import Derived.Test.YtiafaedhhpjolaaGreatDoorKb04
import Derived.Test.YtiafaedhhpjolaaGreatDoorKb05
import Derived.Test.YtiafaedhhpjolaaGreatDoorRows
set_option linter.unusedVariables false
namespace Go.Proofs.YtiafaedhhpjolaaGreatDoor
open Go Go.Km
def E : Env := { tErr := 58, tI8 := 48, tI16 := 47, tI32 := 21, tI64 := 2, tU8 := 5, tU16 := 27, tW := 66, tU64 := 94, tO := 4, tF64 := 0, tI := 3, tStr := 9, tPStr := 98, tB := 22, tUuid := 97, tTags := 53, tPTags := 125, tRd := 109, tPRd := 117, rI8 := 62, rI16 := 59, rI32 := 61, rI64 := 60, rU16 := 0, rBool := 94, rF64 := 0, rUuid := 88, rStr := 71, rUStr := 69, rCStr := 70, rUCStr := 68, rNStr := 92, rUNStr := 91, rCNStr := 90, rUCNStr := 89, rBytes := 0, rCBytes := 0, rNBytes := 0, rCNBytes := 0, rLen := 64, rCLen := 63, rOk := 65, rComplete := 66, rTags := 72, wI8 := 34, wI16 := 31, wI32 := 33, wI64 := 32, wU16 := 76, wBool := 58, wF64 := 0, wUuid := 55, wStr := 38, wCStr := 37, wNStr := 57, wCNStr := 56, wBytes := 0, wCBytes := 0, wNBytes := 0, wCNBytes := 0, wLen := 40, wCLen := 39, wNLen := 36, wCNLen := 35, wUvarint := 41, tLen := 42, tEach := 43, tUint := 124, tFld := 45, tFlds := 30, tT := 26, tS := 23, tUnk := 68, tK := 24, tMsg := 32, wU32 := 78, wU64 := 77, uvLen := 79, len32 := 100, sHas := 45, sNull := 82, sWhole := 52, sThings := 83, sAt := 47, sUvar := 50, sFixed := 16, sWidth := 86, sCounted := 84, sValue := 85, sField := 46, sUsual := 49, sKnown := 48, sUnknown := 51, sPart := 23, sDefault := 0, sWrite := 10, sKept := 6, sSame := 14, lVersion := 12, tTagMap := 51, tU32s := 84, tFnTag := 119, tFnLess := 143, tAny := 20, gAll := 80, gEach1 := 81, gAll1 := 102, gSet := 74, sortSlice := 101, rUvar := 73, rSpan := 75, rU64 := 96, kUv := 99, kUs := 98, bU16 := 95, bU32 := 97, bU64 := 103, f64b := 0, f64f := 0, tBE := 135, tUvR := 140, vErr := 1, vBE := 0 }
theorem tu {Q : Program} {f : FuncId} {fn : Func} {np nt : Nat} {res : Array ResultVar} {c : Code} (h : Q.funcs[f]? = some fn) (hb : (fn.body.map bare, fn.ntmps, fn.results, fn.name != "runtime.NumGoroutine") = (some c, nt, res, true) := by kernel_rfl) : Text Q f np nt res c := ⟨fn, h, (Prod.mk.inj hb).1, (Prod.mk.inj (Prod.mk.inj hb).2).1, (Prod.mk.inj (Prod.mk.inj (Prod.mk.inj hb).2).2).1, by simpa using (Prod.mk.inj (Prod.mk.inj (Prod.mk.inj hb).2).2).2⟩
theorem tt {Q : Program} {f : FuncId} {fn : Func} {np nt : Nat} {res : Array ResultVar} {c : Code} (h : Q.funcs[f]? = some fn) (hb : fn.body.map bare = some c) (hn : fn.ntmps = nt) (hr : fn.results = res) (hne : fn.name ≠ "runtime.NumGoroutine") : Text Q f np nt res c := ⟨fn, h, hb, hn, hr, hne⟩
theorem kt : KTexts Tryz.prog E where
  wBool := fun _ => (tu Tryz.func58)
  wI8 := fun _ => (tu Tryz.func34)
  wI16 := fun _ => (tu Tryz.func31)
  wU16 := fun _ => (tu Tryz.func76)
  wI32 := fun _ => (tu Tryz.func33)
  wU32 := fun _ => (tu Tryz.func78)
  wI64 := fun _ => (tu Tryz.func32)
  wU64 := fun _ => (tu Tryz.func77)
  wUuid := fun _ => (tu Tryz.func55)
  wStr := fun _ => (tu Tryz.func38)
  wCStr := fun _ => (tu Tryz.func37)
  wNStr := fun _ => (tu Tryz.func57)
  wCNStr := fun _ => (tu Tryz.func56)
  wBytes := fun h => absurd rfl h
  wCBytes := fun h => absurd rfl h
  wNBytes := fun h => absurd rfl h
  wCNBytes := fun h => absurd rfl h
  wLen := fun _ => (tu Tryz.func40)
  wCLen := fun _ => (tu Tryz.func39)
  wNLen := fun _ => (tu Tryz.func36)
  wCNLen := fun _ => (tu Tryz.func35)
  uvLen := fun _ => (tu Tryz.func79)
  len32 := fun _ => (tu Tryz.func100)
  wUvarint := fun _ => (tu Tryz.func41)
  tLen := fun _ => (tu Tryz.func42)
  tEach := fun _ => (tu Tryz.func43)
  gAll := fun _ => (tu Tryz.func80)
theorem rt : RTexts Tryz.prog E where
  mixed := (by kernel_rfl)
  row := (by kernel_rfl)
  u8 := (by kernel_rfl)
  int := (by kernel_rfl)
  oBytes := (by kernel_rfl)
  oBool := (by kernel_rfl)
  oU8 := (by kernel_rfl)
  f0 := (by kernel_rfl)
  f1 := (by kernel_rfl)
  i32 := (by kernel_rfl)
  oE := (by kernel_rfl)
  rOk := (tu Tryz.func65)
  rComplete := (tu Tryz.func66)
  rI8 := fun _ => ⟨(by kernel_rfl), (tu Tryz.func62)⟩
  rBool := fun _ => (tu Tryz.func94)
  rI16 := fun _ => ⟨(by kernel_rfl), (by kernel_rfl), (by kernel_rfl), (tu Tryz.func95), (tu Tryz.func59)⟩
  rU16 := fun h => absurd rfl h
  rI32 := fun _ => ⟨(by kernel_rfl), (by kernel_rfl), (tu Tryz.func97), (tu Tryz.func61)⟩
  rI64 := fun _ => ⟨(by kernel_rfl), (by kernel_rfl), (by kernel_rfl), (tu Tryz.func103), (tu Tryz.func96), (tu Tryz.func60)⟩
  rUvar := fun _ => ⟨(by kernel_rfl), (tu Tryz.func99), (tu Tryz.func73)⟩
  rSpan := fun _ => (tu Tryz.func75)
  rStr := fun _ => ⟨(by kernel_rfl), (by decide), (by decide), (tu Tryz.func71)⟩
  rCStr := fun _ => ⟨(by kernel_rfl), (by decide), (by decide), (tu Tryz.func70)⟩
  rNStr := fun _ => ⟨(by kernel_rfl), (by kernel_rfl), (by kernel_rfl), (by decide), (by decide), (tu Tryz.func92)⟩
  rCNStr := fun _ => ⟨(by kernel_rfl), (by kernel_rfl), (by kernel_rfl), (by decide), (by decide), (tu Tryz.func90)⟩
  rBytes := fun h => absurd rfl h
  rCBytes := fun h => absurd rfl h
  rNBytes := fun h => absurd rfl h
  rCNBytes := fun h => absurd rfl h
  rLen := fun _ => ⟨(by decide), (tu Tryz.func64)⟩
  rCLen := fun _ => ⟨(by decide), (tu Tryz.func63)⟩
def sl6_ren : Go.Shelf.Ren := ⟨fun | 6 => 101 | 10 => 104 | 11 => 105 | 12 => 106 | 13 => 107 | 14 => 108 | 24 => 100 | 25 => 118 | 26 => 119 | 27 => 120 | 28 => 121 | 29 => 122 | 30 => 123 | 31 => 124 | 32 => 125 | 33 => 126 | 34 => 127 | 35 => 128 | 36 => 129 | 37 => 130 | 38 => 131 | 39 => 132 | n => n, fun | 20 => 20 | 26 => 143 | 35 => 148 | 0 => 0 | 37 => 150 | 3 => 3 | 41 => 124 | 44 => 155 | 49 => 66 | 51 => 94 | 4 => 4 | 54 => 162 | 53 => 161 | 58 => 166 | 5 => 5 | 9 => 9 | 60 => 168 | 64 => 171 | 66 => 173 | 67 => 174 | 17 => 17 | 32 => 145 | 33 => 146 | 82 => 189 | 12 => 12 | 75 => 182 | 76 => 183 | 77 => 184 | 78 => 185 | 79 => 186 | 80 => 187 | n => n, fun | n => n⟩
theorem sl6 : Go.Proofs.LaysGg.n6 Tryz.prog sl6_ren where
  mixed := by kernel_rfl
  f6 := Tryz.func101.trans (congrArg some (by kernel_rfl))
  f10 := Tryz.func104.trans (congrArg some (by kernel_rfl))
  f11 := Tryz.func105.trans (congrArg some (by kernel_rfl))
  f12 := Tryz.func106.trans (congrArg some (by kernel_rfl))
  f13 := Tryz.func107.trans (congrArg some (by kernel_rfl))
  f14 := Tryz.func108.trans (congrArg some (by kernel_rfl))
  f24 := Tryz.func100.trans (congrArg some (by kernel_rfl))
  f25 := Tryz.func118.trans (congrArg some (by kernel_rfl))
  f26 := Tryz.func119.trans (congrArg some (by kernel_rfl))
  f27 := Tryz.func120.trans (congrArg some (by kernel_rfl))
  f28 := Tryz.func121.trans (congrArg some (by kernel_rfl))
  f29 := Tryz.func122.trans (congrArg some (by kernel_rfl))
  f30 := Tryz.func123.trans (congrArg some (by kernel_rfl))
  f31 := Tryz.func124.trans (congrArg some (by kernel_rfl))
  f32 := Tryz.func125.trans (congrArg some (by kernel_rfl))
  f33 := Tryz.func126.trans (congrArg some (by kernel_rfl))
  f34 := Tryz.func127.trans (congrArg some (by kernel_rfl))
  f35 := Tryz.func128.trans (congrArg some (by kernel_rfl))
  f36 := Tryz.func129.trans (congrArg some (by kernel_rfl))
  f37 := Tryz.func130.trans (congrArg some (by kernel_rfl))
  f38 := Tryz.func131.trans (congrArg some (by kernel_rfl))
  f39 := Tryz.func132.trans (congrArg some (by kernel_rfl))
  t0 := Tryz.underlying0
  a0 := Tryz.isAgg0
  z0 := Tryz.sizeOf0
  v0 := Tryz.zeroValue0
  i0 := by kernel_rfl
  t3 := Tryz.underlying3
  a3 := Tryz.isAgg3
  z3 := Tryz.sizeOf3
  v3 := Tryz.zeroValue3
  i3 := by kernel_rfl
  t4 := Tryz.underlying4
  a4 := Tryz.isAgg4
  z4 := Tryz.sizeOf4
  v4 := Tryz.zeroValue4
  i4 := by kernel_rfl
  t5 := Tryz.underlying5
  a5 := Tryz.isAgg5
  z5 := Tryz.sizeOf5
  v5 := Tryz.zeroValue5
  i5 := by kernel_rfl
  t9 := Tryz.underlying9
  a9 := Tryz.isAgg9
  z9 := Tryz.sizeOf9
  v9 := Tryz.zeroValue9
  i9 := by kernel_rfl
  t12 := Tryz.underlying12
  a12 := Tryz.isAgg12
  z12 := Tryz.sizeOf12
  v12 := Tryz.zeroValue12
  i12 := by kernel_rfl
  t17 := Tryz.underlying17
  a17 := Tryz.isAgg17
  z17 := Tryz.sizeOf17
  v17 := Tryz.zeroValue17
  i17 := by kernel_rfl
  t20 := Tryz.underlying20
  a20 := Tryz.isAgg20
  z20 := Tryz.sizeOf20
  v20 := Tryz.zeroValue20
  i20 := by kernel_rfl
  t26 := Tryz.underlying143
  a26 := Tryz.isAgg143
  z26 := Tryz.sizeOf143
  v26 := Tryz.zeroValue143
  i26 := by kernel_rfl
  t32 := Tryz.underlying145
  a32 := Tryz.isAgg145
  z32 := Tryz.sizeOf145
  v32 := Tryz.zeroValue145
  i32 := by kernel_rfl
  t33 := Tryz.underlying146
  a33 := Tryz.isAgg146
  z33 := Tryz.sizeOf146
  v33 := Tryz.zeroValue146
  i33 := by kernel_rfl
  t35 := Tryz.underlying148
  a35 := Tryz.isAgg148
  z35 := Tryz.sizeOf148
  v35 := Tryz.zeroValue148
  i35 := by kernel_rfl
  t37 := Tryz.underlying150
  a37 := Tryz.isAgg150
  z37 := Tryz.sizeOf150
  v37 := Tryz.zeroValue150
  i37 := by kernel_rfl
  t41 := Tryz.underlying124
  a41 := Tryz.isAgg124
  z41 := Tryz.sizeOf124
  v41 := Tryz.zeroValue124
  i41 := by kernel_rfl
  t44 := Tryz.underlying155
  a44 := Tryz.isAgg155
  z44 := Tryz.sizeOf155
  v44 := Tryz.zeroValue155
  i44 := by kernel_rfl
  t49 := Tryz.underlying66
  a49 := Tryz.isAgg66
  z49 := Tryz.sizeOf66
  v49 := Tryz.zeroValue66
  i49 := by kernel_rfl
  t51 := Tryz.underlying94
  a51 := Tryz.isAgg94
  z51 := Tryz.sizeOf94
  v51 := Tryz.zeroValue94
  i51 := by kernel_rfl
  t53 := Tryz.underlying161
  a53 := Tryz.isAgg161
  z53 := Tryz.sizeOf161
  v53 := Tryz.zeroValue161
  i53 := by kernel_rfl
  t54 := Tryz.underlying162
  a54 := Tryz.isAgg162
  z54 := Tryz.sizeOf162
  v54 := Tryz.zeroValue162
  i54 := by kernel_rfl
  t58 := Tryz.underlying166
  a58 := Tryz.isAgg166
  z58 := Tryz.sizeOf166
  v58 := Tryz.zeroValue166
  i58 := by kernel_rfl
  t60 := Tryz.underlying168
  a60 := Tryz.isAgg168
  z60 := Tryz.sizeOf168
  v60 := Tryz.zeroValue168
  i60 := by kernel_rfl
  t64 := Tryz.underlying171
  a64 := Tryz.isAgg171
  z64 := Tryz.sizeOf171
  v64 := Tryz.zeroValue171
  i64 := by kernel_rfl
  t66 := Tryz.underlying173
  a66 := Tryz.isAgg173
  z66 := Tryz.sizeOf173
  v66 := Tryz.zeroValue173
  i66 := by kernel_rfl
  t67 := Tryz.underlying174
  a67 := Tryz.isAgg174
  z67 := Tryz.sizeOf174
  v67 := Tryz.zeroValue174
  i67 := by kernel_rfl
  t75 := Tryz.underlying182
  a75 := Tryz.isAgg182
  z75 := Tryz.sizeOf182
  v75 := Tryz.zeroValue182
  i75 := by kernel_rfl
  t76 := Tryz.underlying183
  a76 := Tryz.isAgg183
  z76 := Tryz.sizeOf183
  v76 := Tryz.zeroValue183
  i76 := by kernel_rfl
  t77 := Tryz.underlying184
  a77 := Tryz.isAgg184
  z77 := Tryz.sizeOf184
  v77 := Tryz.zeroValue184
  i77 := by kernel_rfl
  t78 := Tryz.underlying185
  a78 := Tryz.isAgg185
  z78 := Tryz.sizeOf185
  v78 := Tryz.zeroValue185
  i78 := by kernel_rfl
  t79 := Tryz.underlying186
  a79 := Tryz.isAgg186
  z79 := Tryz.sizeOf186
  v79 := Tryz.zeroValue186
  i79 := by kernel_rfl
  t80 := Tryz.underlying187
  a80 := Tryz.isAgg187
  z80 := Tryz.sizeOf187
  v80 := Tryz.zeroValue187
  i80 := by kernel_rfl
  t82 := Tryz.underlying189
  a82 := Tryz.isAgg189
  z82 := Tryz.sizeOf189
  v82 := Tryz.zeroValue189
  i82 := by kernel_rfl
theorem tT : TagT Tryz.prog E := ⟨by kernel_rfl, by kernel_rfl, by kernel_rfl, by kernel_rfl, by kernel_rfl, by kernel_rfl⟩
theorem sE : SortE Tryz.prog E where
  mixed := by kernel_rfl
  row := by kernel_rfl
  oU32s := by kernel_rfl
  zU32s := by kernel_rfl
  oU32 := by kernel_rfl
  iu := by kernel_rfl
  L := ⟨sl6_ren, sl6, rfl⟩
  enters := Go.Proofs.enters_of Tryz.func101 (by kernel_rfl) rfl
  info := ⟨Tryz.t84, Tryz.t66, by kernel_rfl, by kernel_rfl, by kernel_rfl, by kernel_rfl, by kernel_rfl, by kernel_rfl, by kernel_rfl⟩
  kind := fun _ => by kernel_rfl
  sw2 := ⟨110, by kernel_rfl⟩
  sw6 := ⟨114, true, by kernel_rfl, fun args W => run_callFunc_extern Tryz.func114 (by kernel_rfl) (by kernel_rfl) (by kernel_rfl) (e := Extern.ReflectliteSwapper.swap true) (by kernel_rfl) args W⟩
  less := (tu Tryz.func102)
theorem tg : TTexts Tryz.prog E := ⟨tT, sE, (tu Tryz.func81), by decide⟩
theorem tr : TagsR Tryz.prog E (fun _ => True) := tagsR tT sE.iu rt.int (fun _ => rt.cU (by decide)) (fun _ => rt.cS (by decide)) (fun _ => (tu Tryz.func74)) (fun _ => (tu Tryz.func72))
theorem ew : EnvW Tryz.prog E (fun _ => True) := envWT kt (by kernel_rfl) tg
theorem ur : UuidR Tryz.prog E := uuidR rt.env rt.mixed (by kernel_rfl) (by kernel_rfl) (by kernel_rfl) (fun _ => rt.cS (by decide)) (fun _ => (tu Tryz.func88))
theorem ei : EnvI Tryz.prog E := ⟨by kernel_rfl, by kernel_rfl⟩
theorem er : EnvR Tryz.prog E (fun _ => True) := envR rt (by decide) ur tr
theorem rx : EnvRX Tryz.prog E := ⟨by kernel_rfl, by kernel_rfl, by kernel_rfl⟩
theorem rk : E.rTags ≠ 0 → EnvRK Tryz.prog E (fun _ => True) := fun _ => ⟨tT, sE.iu, rt.int, rt.cU (by decide), rt.cS (by decide), (tu Tryz.func74), fun _ => trivial, sE.mixed, by kernel_rfl, by kernel_rfl, by kernel_rfl⟩
theorem lv : Text Tryz.prog E.lVersion 2 10 #[.tmp 4] (ky E) := (tu Tryz.func12)
theorem sm : Text Tryz.prog E.sSame 2 26 #[.tmp 4] (gl E) := (tu Tryz.func14)
theorem i16k : qr Tryz.prog E.tI16 = some .i16 := by kernel_rfl
theorem ik : qr Tryz.prog E.tI = some .i64 := by kernel_rfl
theorem o16 : qQ Tryz.prog E.tI16 = true := by kernel_rfl
theorem ifE : jo Tryz.prog E.tErr = true := by kernel_rfl
theorem lf : Tryz.prog.liftsFinal = false := by kernel_rfl
theorem me : Tryz.prog.mayEnter = true := by kernel_rfl
theorem lo : laidOutB Tryz.prog = true := by kernel_rfl
theorem own : ownKnob Tryz.prog.godebug = none := by kernel_rfl
end Go.Proofs.YtiafaedhhpjolaaGreatDoor
