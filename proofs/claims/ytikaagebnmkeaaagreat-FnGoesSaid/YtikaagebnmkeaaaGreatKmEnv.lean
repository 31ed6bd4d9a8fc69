/- The numbers of this translation; its functions have the texts that the contracts are about. -/
import Derived.Test.YtikaagebnmkeaaaGreatKb00
import Derived.Test.YtikaagebnmkeaaaGreatRows
set_option linter.unusedVariables false
set_option maxRecDepth 100000
namespace Go.Proofs.YtikaagebnmkeaaaGreat
open Go Go.Km
def E : Env := { tErr := 754, tI8 := 240, tI16 := 22, tI32 := 21, tI64 := 2, tU8 := 5, tU16 := 669, tW := 536, tU64 := 0, tO := 4, tF64 := 794, tI := 3, tStr := 9, tPStr := 231, tB := 347, tUuid := 423, tTags := 235, tPTags := 0, tRd := 0, tPRd := 0, rI8 := 0, rI16 := 0, rI32 := 0, rI64 := 0, rU16 := 0, rBool := 0, rF64 := 0, rUuid := 0, rStr := 0, rUStr := 0, rCStr := 0, rUCStr := 0, rNStr := 0, rUNStr := 0, rCNStr := 0, rUCNStr := 0, rBytes := 0, rCBytes := 0, rNBytes := 0, rCNBytes := 0, rLen := 0, rCLen := 0, rOk := 0, rComplete := 0, rTags := 0, wI8 := 0, wI16 := 0, wI32 := 0, wI64 := 0, wU16 := 0, wBool := 0, wF64 := 0, wUuid := 0, wStr := 0, wCStr := 0, wNStr := 0, wCNStr := 0, wBytes := 0, wCBytes := 0, wNBytes := 0, wCNBytes := 0, wLen := 0, wCLen := 0, wNLen := 0, wCNLen := 0, wUvarint := 0, tLen := 0, tEach := 0, tUint := 0, tFld := 0, tFlds := 0, tT := 0, tS := 0, tUnk := 0, tK := 0, tMsg := 0, wU32 := 0, wU64 := 0, uvLen := 0, len32 := 0, sHas := 0, sNull := 0, sWhole := 0, sThings := 0, sAt := 0, sUvar := 0, sFixed := 0, sWidth := 0, sCounted := 0, sValue := 0, sField := 0, sUsual := 0, sKnown := 0, sUnknown := 0, sPart := 0, sDefault := 0, sWrite := 0, sKept := 0, sSame := 0, lVersion := 0, tTagMap := 233, tU32s := 0, tFnTag := 0, tFnLess := 0, tAny := 20, gAll := 0, gEach1 := 0, gAll1 := 0, gSet := 0, sortSlice := 0, rUvar := 0, rSpan := 0, rU64 := 0, kUv := 0, kUs := 0, bU16 := 0, bU32 := 0, bU64 := 0, f64b := 0, f64f := 0, tBE := 0, tUvR := 0, vErr := 0, vBE := 0 }
theorem tu {Q : Program} {f : FuncId} {fn : Func} {np nt : Nat} {res : Array ResultVar} {c : Code} (h : Q.funcs[f]? = some fn) (hb : (fn.body.map bare, fn.ntmps, fn.results, fn.name != "runtime.NumGoroutine") = (some c, nt, res, true) := by kernel_rfl) : Text Q f np nt res c := ⟨fn, h, (Prod.mk.inj hb).1, (Prod.mk.inj (Prod.mk.inj hb).2).1, (Prod.mk.inj (Prod.mk.inj (Prod.mk.inj hb).2).2).1, by simpa using (Prod.mk.inj (Prod.mk.inj (Prod.mk.inj hb).2).2).2⟩
theorem tt {Q : Program} {f : FuncId} {fn : Func} {np nt : Nat} {res : Array ResultVar} {c : Code} (h : Q.funcs[f]? = some fn) (hb : fn.body.map bare = some c) (hn : fn.ntmps = nt) (hr : fn.results = res) (hne : fn.name ≠ "runtime.NumGoroutine") : Text Q f np nt res c := ⟨fn, h, hb, hn, hr, hne⟩
def Z : ZG := { tReq := 27, tTup := 24, Qknown := 4, Qgoes := 5, Qrfk := 10, Qadm := 6, Qgrp := 7, Qtxn := 8, Qshr := 9, T0 := 30, U0 := 31, T1 := 33, U1 := 34, T2 := 36, U2 := 37, T3 := 39, U3 := 40 }
def ks : List RK := [⟨0, 11, 41⟩, ⟨1, 12, 43⟩, ⟨2, 13, 45⟩, ⟨3, 14, 47⟩, ⟨4, 15, 49⟩, ⟨5, 16, 51⟩, ⟨6, 17, 53⟩, ⟨7, 18, 55⟩, ⟨8, 19, 57⟩, ⟨9, 20, 59⟩, ⟨10, 21, 61⟩, ⟨11, 22, 63⟩, ⟨12, 23, 65⟩, ⟨13, 24, 67⟩, ⟨14, 25, 69⟩, ⟨15, 26, 71⟩, ⟨16, 27, 73⟩, ⟨17, 28, 75⟩, ⟨18, 29, 77⟩, ⟨19, 30, 79⟩, ⟨20, 31, 81⟩, ⟨21, 32, 83⟩, ⟨22, 33, 85⟩, ⟨23, 34, 87⟩, ⟨24, 35, 89⟩, ⟨25, 36, 91⟩, ⟨26, 37, 93⟩, ⟨27, 38, 95⟩, ⟨28, 39, 97⟩, ⟨29, 40, 99⟩, ⟨30, 41, 101⟩, ⟨31, 42, 103⟩, ⟨32, 43, 105⟩, ⟨33, 44, 107⟩, ⟨34, 45, 109⟩, ⟨35, 46, 111⟩, ⟨36, 47, 113⟩, ⟨37, 48, 115⟩, ⟨38, 49, 117⟩, ⟨39, 50, 119⟩, ⟨40, 51, 121⟩, ⟨41, 52, 123⟩, ⟨42, 53, 125⟩, ⟨43, 54, 127⟩, ⟨44, 55, 129⟩, ⟨45, 56, 131⟩, ⟨46, 57, 133⟩, ⟨47, 58, 135⟩, ⟨48, 59, 137⟩, ⟨49, 60, 139⟩, ⟨50, 61, 141⟩, ⟨51, 62, 143⟩, ⟨52, 63, 145⟩, ⟨53, 64, 147⟩, ⟨54, 65, 149⟩, ⟨55, 66, 151⟩, ⟨56, 67, 153⟩, ⟨57, 68, 155⟩, ⟨58, 69, 157⟩, ⟨59, 70, 159⟩, ⟨60, 71, 161⟩, ⟨61, 72, 163⟩, ⟨62, 73, 165⟩, ⟨63, 74, 167⟩, ⟨64, 75, 169⟩, ⟨65, 76, 171⟩, ⟨66, 77, 173⟩, ⟨67, 78, 175⟩, ⟨68, 79, 177⟩, ⟨69, 80, 179⟩, ⟨70, 81, 181⟩, ⟨71, 82, 183⟩, ⟨72, 83, 185⟩, ⟨73, 84, 187⟩, ⟨74, 85, 189⟩, ⟨75, 86, 191⟩, ⟨76, 87, 193⟩, ⟨77, 88, 195⟩, ⟨78, 89, 197⟩, ⟨79, 90, 199⟩, ⟨80, 91, 201⟩, ⟨81, 92, 203⟩, ⟨82, 93, 205⟩, ⟨83, 94, 207⟩, ⟨84, 95, 209⟩, ⟨85, 96, 211⟩, ⟨86, 97, 213⟩, ⟨87, 98, 215⟩, ⟨88, 99, 217⟩, ⟨89, 100, 219⟩, ⟨90, 101, 221⟩, ⟨91, 102, 223⟩, ⟨92, 103, 225⟩, ⟨93, 104, 227⟩, ⟨94, 105, 229⟩]
def ad : List Int := [19, 20, 37, 43, 45, 46, 51, 52, 53, 54, 55, 56, 57, 58]
def gr : List Int := [8, 9, 11, 12, 13, 14, 15, 28, 42, 47, 68, 76, 77, 88, 90, 91, 92, 93]
def tx_ : List Int := [22, 24, 25, 26]
def sh : List Int := [83, 84, 85, 86, 87]
theorem gt : GoT Tryz.prog E Z ks ad gr tx_ sh where
  bool := by kernel_rfl
  z0 := by kernel_rfl
  z1 := by kernel_rfl
  z2 := by kernel_rfl
  z3 := by kernel_rfl
  tKnown := (tu Tryz.func4)
  tGoes := (tu Tryz.func5)
  tRfk := (tu Tryz.func10)
  tAdm := (tu Tryz.func6)
  tGrp := (tu Tryz.func7)
  tTxn := (tu Tryz.func8)
  tShr := (tu Tryz.func9)
  n0 := by decide
  n1 := by decide
  n2 := by decide
  n3 := by decide
end Go.Proofs.YtikaagebnmkeaaaGreat
