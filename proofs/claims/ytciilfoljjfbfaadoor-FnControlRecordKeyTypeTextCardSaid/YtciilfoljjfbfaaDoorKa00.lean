/- Names of kinds: the texts (printed by a program from the translation); rules for texts. Names of kinds: the small functions. Names of kinds: spec.Normal. Names of kinds: laws.plain, strnorm. Names of kinds: the tables of names. Tags: the map of tags; Set. Tags: Set; the reading of tags. Names of kinds: the parsers. Names of kinds: the law of a parser. Names of kinds: the law of a kind's texts. The plain law of what the spec writes: it is what is written of data that can be read. The plain law of what the spec writes, second part. spec.value spec.value: the whole. spec.value: the whole. spec.field spec.field: a list. spec.field: the whole. spec.field: the whole. spec.known spec.Write spec.part: the unknown tags and the end. spec.part. spec.unknown: the plain law, the rows, the two tests. spec.unknown: a tag is put in. spec.unknown. spec.part and spec.field of all shapes without known tags. spec.Default: trees in memory that are wholly new. spec.Default. spec.Default of all shapes. The spec's messages: literals of fields. The spec's messages: the functions that give them. The laws 'what the spec writes is read, and written back', 'what ends early is an error': over any program. The laws 'what the spec writes is read, and written back', second part: the law's body. The laws 'what ends early is an error': the law's body. What is kept within: read and written again; the spec's form of it. The laws over what is kept within: the spec's form; the laws' bodies. A tree that came in, as the spec's functions take it. How long what the spec writes is; rows of laws over trees. The laws over what is kept within: what ends early. The laws 'what is read of any octets ..': the body, the row. A kept message of two numbers: at every version, below 0 too. A kept message of two numbers: read and written again; the law 'what is read of any octets ..'. The row of a law over octets alone. The rows of the two laws about names of kinds. -/
import Derived.Test.YtciilfoljjfbfaaDoorKb00
import Derived.Lib.Case
import Derived.Lib.Space
import Derived.Lib.ConvBytes
import Derived.Maps.RangeRun
import Derived.Lib.AtoiErrMem
import Derived.Laws.CopyRow
import Derived.Laws.IdiomCopy
import Derived.Laws.OwnMore
import Derived.Lib.LaidTab
import Derived.Shelf.Strings.TrimSpace
import Derived.Shelf.Strings.OnBuilder
import Derived.Stop.LaidErr
import Derived.MakeChecks
set_option linter.unusedSimpArgs false
set_option linter.unusedVariables false
namespace Go.Km
open Go Go.RowKit
structure SC where
 tNames : TypeId := 0
 tName : TypeId := 0
 tRes : TypeId := 0
 tEs : TypeId := 0
 tPEs : TypeId := 0
 Qblank : FuncId := 0
 QerrNew : FuncId := 0
 QimplOfTextA : FuncId := 0
 QimplOfTextC : FuncId := 0
 QimplParseA : FuncId := 0
 QimplParseC : FuncId := 0
 QimplStringC : FuncId := 0
 QimplTextC : FuncId := 0
 Qindex : FuncId := 0
 QmarC : FuncId := 0
 QnamesA : FuncId := 0
 QnamesC : FuncId := 0
 Qnormal : FuncId := 0
 QparseA : FuncId := 0
 QparseC : FuncId := 0
 Qparsed : FuncId := 0
 Qplain : FuncId := 0
 QreplaceAll : FuncId := 0
 QspecParsed : FuncId := 0
 QstrC : FuncId := 0
 Qstrnorm : FuncId := 0
 QunmA : FuncId := 0
 QunmC : FuncId := 0
 Qword : FuncId := 0
 TOLOW : FuncId := 0
 TRIMSP : FuncId := 0
def c_blank (E : Env) (C : SC) : Code :=
 (sq [(rg [(oQ 2 (.assign (.const (.bool false))) E.tO)]),
  (rg [(oQ 3 (.move (.tmp 0)) E.tU8),
   (oQ 4 (.binOp .eql E.tU8 (.tmp 3) (.const (.int .u8 32)) E.tU8) E.tO),
   (oQ 5 (.move (.tmp 4)) E.tO),
   ⟨some 6, .move (.tmp 0), E.tU8, "", #[], some (2, false)⟩,
   ⟨some 7, .binOp .geq E.tU8 (.tmp 6) (.const (.int .u8 9)) E.tU8, E.tO, "", #[], some (2, false)⟩,
   ⟨some 8, .move (.tmp 7), E.tO, "", #[], some (2, false)⟩,
   ⟨some 9, .move (.tmp 0), E.tU8, "", #[], some (5, true)⟩,
   ⟨some 10, .binOp .leq E.tU8 (.tmp 9) (.const (.int .u8 13)) E.tU8, E.tO, "", #[], some (5, true)⟩,
   ⟨some 11, .pick (.tmp 8) (.tmp 10) (.const (.bool false)), E.tO, "", #[], some (2, false)⟩,
   (oQ 12 (.pick (.tmp 5) (.const (.bool true)) (.tmp 11)) E.tO),
   (oQ 2 (.assign (.tmp 12)) E.tO)]),
  .ret])
def c_normal (E : Env) (C : SC) : Code :=
  (sq [(rg [(oQ 2 (.assign (.const (.string ⟨#[]⟩))) E.tStr)]),
    (rg [(oQ 3 (.assign (.const (.slice none 0 0))) E.tB)]),
    (sq [(rg [(oQ 4 (.assign (.const (.int .i64 0))) E.tI)]),
      (.block 0 (.loop (sq [(sq [(rg [(oQ 6 (.move (.tmp 4)) E.tI),
                (oQ 7 (.move (.tmp 0)) E.tStr),
                (oQ 8 (.call { callee := .builtin .len, args := #[(.tmp 7)], argTypes := #[E.tStr] }) E.tI),
                (oQ 9 (.binOp .lss E.tI (.tmp 6) (.tmp 8) E.tI) E.tO)]),
              (.cond (.tmp 9)
                .skip
                (.exit 0))]),
            (.block 1 (sq [(rg [(oQ 12 (.move (.tmp 0)) E.tStr),
                  (oQ 13 (.move (.tmp 4)) E.tI),
                  (oQ 14 (.index E.tStr (.tmp 12) (.tmp 13)) E.tU8),
                  (oQ 5 (.assign (.tmp 14)) E.tU8)]),
                (sq [(rg [(oQ 15 (.move (.tmp 5)) E.tU8),
                    (oQ 16 (.binOp .geq E.tU8 (.tmp 15) (.const (.int .u8 65)) E.tU8) E.tO),
                    (oQ 17 (.move (.tmp 16)) E.tO),
                    ⟨some 18, .move (.tmp 5), E.tU8, "", #[], some (2, true)⟩,
                    ⟨some 19, .binOp .leq E.tU8 (.tmp 18) (.const (.int .u8 90)) E.tU8, E.tO, "", #[], some (2, true)⟩,
                    (oQ 20 (.pick (.tmp 17) (.tmp 19) (.const (.bool false))) E.tO)]),
                  (.cond (.tmp 20)
                    (rg [(oQ 21 (.move (.tmp 5)) E.tU8),
                      (oQ 22 (.binOp .add E.tU8 (.tmp 21) (.const (.int .u8 32)) E.tU8) E.tU8),
                      (oQ 5 (.assign (.tmp 22)) E.tU8)])
                    .skip)]),
                (rg [(oQ 23 (.move (.tmp 5)) E.tU8),
                  (oQ 24 (.binOp .neq E.tU8 (.tmp 23) (.const (.int .u8 46)) E.tU8) E.tO),
                  (oQ 25 (.move (.tmp 24)) E.tO),
                  ⟨some 26, .move (.tmp 5), E.tU8, "", #[], some (2, true)⟩,
                  ⟨some 27, .binOp .neq E.tU8 (.tmp 26) (.const (.int .u8 95)) E.tU8, E.tO, "", #[], some (2, true)⟩,
                  (oQ 28 (.pick (.tmp 25) (.tmp 27) (.const (.bool false))) E.tO),
                  (oQ 29 (.move (.tmp 28)) E.tO),
                  ⟨some 30, .move (.tmp 5), E.tU8, "", #[], some (6, true)⟩,
                  ⟨some 31, .binOp .neq E.tU8 (.tmp 30) (.const (.int .u8 45)) E.tU8, E.tO, "", #[], some (6, true)⟩,
                  (oQ 32 (.pick (.tmp 29) (.tmp 31) (.const (.bool false))) E.tO)]),
                (.cond (.tmp 32)
                  (rg [(oQ 33 (.move (.tmp 3)) E.tB),
                    (oQ 34 (.move (.tmp 5)) E.tU8),
                    (oQ 35 (.buildSlice E.tB 1 #[(0, (.tmp 34))]) E.tB),
                    (oQ 36 (.call { callee := .builtin .append, args := #[(.tmp 33), (.tmp 35)], argTypes := #[E.tB, E.tB] }) E.tB),
                    (oQ 3 (.assign (.tmp 36)) E.tB)])
                  .skip)])),
            (rg [(oQ 10 (.move (.tmp 4)) E.tI),
              (oQ 11 (.binOp .add E.tI (.tmp 10) (.const (.int .i64 1)) E.tI) E.tI),
              (oQ 4 (.assign (.tmp 11)) E.tI)])])))]),
    (.block 2 (.loop (sq [(sq [(rg [(oQ 37 (.move (.tmp 3)) E.tB),
              (oQ 38 (.call { callee := .builtin .len, args := #[(.tmp 37)], argTypes := #[E.tB] }) E.tI),
              (oQ 39 (.binOp .gtr E.tI (.tmp 38) (.const (.int .i64 0)) E.tI) E.tO),
              (oQ 40 (.move (.tmp 39)) E.tO),
              ⟨some 41, .move (.tmp 3), E.tB, "", #[], some (3, true)⟩,
              ⟨some 42, .indexAddr E.tB (.tmp 41) (.const (.int .i64 0)), 0, "", #[], some (3, true)⟩,
              ⟨some 43, .load E.tU8 (.tmp 42), E.tU8, "", #[], some (3, true)⟩,
              ⟨some 44, .call { callee := .value (.func C.Qblank), args := #[(.tmp 43)], argTypes := #[E.tU8] }, E.tO, "", #[], some (3, true)⟩,
              (oQ 45 (.pick (.tmp 40) (.tmp 44) (.const (.bool false))) E.tO)]),
            (.cond (.tmp 45)
              .skip
              (.exit 2))]),
          (.block 3 (rg [(oQ 46 (.move (.tmp 3)) E.tB),
              (oQ 47 (.slice E.tB (.tmp 46) (some (.const (.int .i64 1))) none none) E.tB),
              (oQ 3 (.assign (.tmp 47)) E.tB)]))]))),
    (.block 4 (.loop (sq [(sq [(rg [(oQ 48 (.move (.tmp 3)) E.tB),
              (oQ 49 (.call { callee := .builtin .len, args := #[(.tmp 48)], argTypes := #[E.tB] }) E.tI),
              (oQ 50 (.binOp .gtr E.tI (.tmp 49) (.const (.int .i64 0)) E.tI) E.tO),
              (oQ 51 (.move (.tmp 50)) E.tO),
              ⟨some 52, .move (.tmp 3), E.tB, "", #[], some (3, true)⟩,
              ⟨some 53, .move (.tmp 3), E.tB, "", #[], some (3, true)⟩,
              ⟨some 54, .call { callee := .builtin .len, args := #[(.tmp 53)], argTypes := #[E.tB] }, E.tI, "", #[], some (3, true)⟩,
              ⟨some 55, .binOp .sub E.tI (.tmp 54) (.const (.int .i64 1)) E.tI, E.tI, "", #[], some (3, true)⟩,
              ⟨some 56, .indexAddr E.tB (.tmp 52) (.tmp 55), 0, "", #[], some (3, true)⟩,
              ⟨some 57, .load E.tU8 (.tmp 56), E.tU8, "", #[], some (3, true)⟩,
              ⟨some 58, .call { callee := .value (.func C.Qblank), args := #[(.tmp 57)], argTypes := #[E.tU8] }, E.tO, "", #[], some (3, true)⟩,
              (oQ 59 (.pick (.tmp 51) (.tmp 58) (.const (.bool false))) E.tO)]),
            (.cond (.tmp 59)
              .skip
              (.exit 4))]),
          (.block 5 (rg [(oQ 60 (.move (.tmp 3)) E.tB),
              (oQ 61 (.move (.tmp 3)) E.tB),
              (oQ 62 (.call { callee := .builtin .len, args := #[(.tmp 61)], argTypes := #[E.tB] }) E.tI),
              (oQ 63 (.binOp .sub E.tI (.tmp 62) (.const (.int .i64 1)) E.tI) E.tI),
              (oQ 64 (.slice E.tB (.tmp 60) none (some (.tmp 63)) none) E.tB),
              (oQ 3 (.assign (.tmp 64)) E.tB)]))]))),
    (rg [(oQ 65 (.move (.tmp 3)) E.tB),
      (oQ 66 (.convert E.tB E.tStr (.tmp 65)) E.tStr),
      (oQ 2 (.assign (.tmp 66)) E.tStr)]),
    .ret])
def c_index (E : Env) (C : SC) : Code :=
  (sq [(rg [(oQ 4 (.assign (.const (.int .i64 0))) E.tI)]),
    (sq [(rg [(oQ 5 (.assign (.const (.int .i64 0))) E.tI)]),
      (.block 0 (.loop (sq [(sq [(rg [(oQ 6 (.move (.tmp 5)) E.tI),
                (oQ 7 (.move (.tmp 1)) E.tStr),
                (oQ 8 (.call { callee := .builtin .len, args := #[(.tmp 7)], argTypes := #[E.tStr] }) E.tI),
                (oQ 9 (.binOp .add E.tI (.tmp 6) (.tmp 8) E.tI) E.tI),
                (oQ 10 (.move (.tmp 0)) E.tStr),
                (oQ 11 (.call { callee := .builtin .len, args := #[(.tmp 10)], argTypes := #[E.tStr] }) E.tI),
                (oQ 12 (.binOp .leq E.tI (.tmp 9) (.tmp 11) E.tI) E.tO)]),
              (.cond (.tmp 12)
                .skip
                (.exit 0))]),
            (.block 1 (sq [(rg [(oQ 15 (.move (.tmp 0)) E.tStr),
                  (oQ 16 (.move (.tmp 5)) E.tI),
                  (oQ 17 (.move (.tmp 5)) E.tI),
                  (oQ 18 (.move (.tmp 1)) E.tStr),
                  (oQ 19 (.call { callee := .builtin .len, args := #[(.tmp 18)], argTypes := #[E.tStr] }) E.tI),
                  (oQ 20 (.binOp .add E.tI (.tmp 17) (.tmp 19) E.tI) E.tI),
                  (oQ 21 (.slice E.tStr (.tmp 15) (some (.tmp 16)) (some (.tmp 20)) none) E.tStr),
                  (oQ 22 (.move (.tmp 1)) E.tStr),
                  (oQ 23 (.binOp .eql E.tStr (.tmp 21) (.tmp 22) E.tStr) E.tO)]),
                (.cond (.tmp 23)
                  (sq [(rg [(oQ 24 (.move (.tmp 5)) E.tI),
                      (oQ 4 (.assign (.tmp 24)) E.tI)]),
                    .ret])
                  .skip)])),
            (rg [(oQ 13 (.move (.tmp 5)) E.tI),
              (oQ 14 (.binOp .add E.tI (.tmp 13) (.const (.int .i64 1)) E.tI) E.tI),
              (oQ 5 (.assign (.tmp 14)) E.tI)])])))]),
    (rg [(oQ 4 (.assign (.const (.int .i64 (-1)))) E.tI)]),
    .ret])
def c_replaceAll (E : Env) (C : SC) : Code :=
  (sq [(rg [(oQ 6 (.assign (.const (.string ⟨#[]⟩))) E.tStr)]),
    (rg [(oQ 7 (.assign (.const (.slice none 0 0))) E.tB)]),
    (sq [(rg [(oQ 11 (.move (.tmp 1)) E.tStr),
        (oQ 12 (.call { callee := .builtin .len, args := #[(.tmp 11)], argTypes := #[E.tStr] }) E.tI),
        (oQ 13 (.binOp .eql E.tI (.tmp 12) (.const (.int .i64 0)) E.tI) E.tO)]),
      (.cond (.tmp 13)
        (sq [(rg [(oQ 14 (.move (.tmp 7)) E.tB),
            (oQ 15 (.move (.tmp 2)) E.tStr),
            (oQ 16 (.call { callee := .builtin .append, args := #[(.tmp 14), (.tmp 15)], argTypes := #[E.tB, E.tStr] }) E.tB),
            (oQ 7 (.assign (.tmp 16)) E.tB)]),
          (rg [(oQ 8 (.assign (.const (.int .i64 0))) E.tI)]),
          (sq [(rg [(oQ 17 (.move (.tmp 0)) E.tStr),
              (oQ 18 (.range E.tStr (.tmp 17)) 0)]),
            (.block 0 (.loop (sq [(rg [(oQ 19 (.next (.tmp 18) true) 0),
                    (oQ 20 (.extract (.tmp 19) 0) E.tO)]),
                  (.cond (.tmp 20)
                    .skip
                    (.exit 0)),
                  (.block 1 (sq [(rg [(oQ 21 (.extract (.tmp 19) 1) E.tI),
                        (oQ 9 (.assign (.tmp 21)) E.tI)]),
                      (rg [(oQ 22 (.move (.tmp 9)) E.tI),
                        (oQ 23 (.binOp .gtr E.tI (.tmp 22) (.const (.int .i64 0)) E.tI) E.tO)]),
                      (.cond (.tmp 23)
                        (sq [(rg [(oQ 24 (.move (.tmp 7)) E.tB),
                            (oQ 25 (.move (.tmp 0)) E.tStr),
                            (oQ 26 (.move (.tmp 8)) E.tI),
                            (oQ 27 (.move (.tmp 9)) E.tI),
                            (oQ 28 (.slice E.tStr (.tmp 25) (some (.tmp 26)) (some (.tmp 27)) none) E.tStr),
                            (oQ 29 (.call { callee := .builtin .append, args := #[(.tmp 24), (.tmp 28)], argTypes := #[E.tB, E.tStr] }) E.tB),
                            (oQ 30 (.move (.tmp 2)) E.tStr),
                            (oQ 31 (.call { callee := .builtin .append, args := #[(.tmp 29), (.tmp 30)], argTypes := #[E.tB, E.tStr] }) E.tB),
                            (oQ 7 (.assign (.tmp 31)) E.tB)]),
                          (rg [(oQ 32 (.move (.tmp 9)) E.tI),
                            (oQ 8 (.assign (.tmp 32)) E.tI)])])
                        .skip)]))])))]),
          (sq [(rg [(oQ 33 (.move (.tmp 0)) E.tStr),
              (oQ 34 (.call { callee := .builtin .len, args := #[(.tmp 33)], argTypes := #[E.tStr] }) E.tI),
              (oQ 35 (.binOp .gtr E.tI (.tmp 34) (.const (.int .i64 0)) E.tI) E.tO)]),
            (.cond (.tmp 35)
              (rg [(oQ 36 (.move (.tmp 7)) E.tB),
                (oQ 37 (.move (.tmp 0)) E.tStr),
                (oQ 38 (.move (.tmp 8)) E.tI),
                (oQ 39 (.slice E.tStr (.tmp 37) (some (.tmp 38)) none none) E.tStr),
                (oQ 40 (.call { callee := .builtin .append, args := #[(.tmp 36), (.tmp 39)], argTypes := #[E.tB, E.tStr] }) E.tB),
                (oQ 41 (.move (.tmp 2)) E.tStr),
                (oQ 42 (.call { callee := .builtin .append, args := #[(.tmp 40), (.tmp 41)], argTypes := #[E.tB, E.tStr] }) E.tB),
                (oQ 7 (.assign (.tmp 42)) E.tB)])
              .skip)]),
          (rg [(oQ 43 (.move (.tmp 7)) E.tB),
            (oQ 44 (.convert E.tB E.tStr (.tmp 43)) E.tStr),
            (oQ 6 (.assign (.tmp 44)) E.tStr)]),
          .ret])
        .skip)]),
    (.block 2 (.loop (.block 3 (sq [(rg [(oQ 45 (.move (.tmp 0)) E.tStr),
              (oQ 46 (.move (.tmp 1)) E.tStr),
              (oQ 47 (.call { callee := .value (.func C.Qindex), args := #[(.tmp 45), (.tmp 46)], argTypes := #[E.tStr, E.tStr] }) E.tI),
              (oQ 10 (.assign (.tmp 47)) E.tI)]),
            (sq [(rg [(oQ 48 (.move (.tmp 10)) E.tI),
                (oQ 49 (.binOp .lss E.tI (.tmp 48) (.const (.int .i64 0)) E.tI) E.tO)]),
              (.cond (.tmp 49)
                (sq [(rg [(oQ 50 (.move (.tmp 7)) E.tB),
                    (oQ 51 (.move (.tmp 0)) E.tStr),
                    (oQ 52 (.call { callee := .builtin .append, args := #[(.tmp 50), (.tmp 51)], argTypes := #[E.tB, E.tStr] }) E.tB),
                    (oQ 53 (.convert E.tB E.tStr (.tmp 52)) E.tStr),
                    (oQ 6 (.assign (.tmp 53)) E.tStr)]),
                  .ret])
                .skip)]),
            (rg [(oQ 54 (.move (.tmp 7)) E.tB),
              (oQ 55 (.move (.tmp 0)) E.tStr),
              (oQ 56 (.move (.tmp 10)) E.tI),
              (oQ 57 (.slice E.tStr (.tmp 55) none (some (.tmp 56)) none) E.tStr),
              (oQ 58 (.call { callee := .builtin .append, args := #[(.tmp 54), (.tmp 57)], argTypes := #[E.tB, E.tStr] }) E.tB),
              (oQ 59 (.move (.tmp 2)) E.tStr),
              (oQ 60 (.call { callee := .builtin .append, args := #[(.tmp 58), (.tmp 59)], argTypes := #[E.tB, E.tStr] }) E.tB),
              (oQ 7 (.assign (.tmp 60)) E.tB)]),
            (rg [(oQ 61 (.move (.tmp 0)) E.tStr),
              (oQ 62 (.move (.tmp 10)) E.tI),
              (oQ 63 (.move (.tmp 1)) E.tStr),
              (oQ 64 (.call { callee := .builtin .len, args := #[(.tmp 63)], argTypes := #[E.tStr] }) E.tI),
              (oQ 65 (.binOp .add E.tI (.tmp 62) (.tmp 64) E.tI) E.tI),
              (oQ 66 (.slice E.tStr (.tmp 61) (some (.tmp 65)) none none) E.tStr),
              (oQ 0 (.assign (.tmp 66)) E.tStr)])]))))])
def c_strnorm (E : Env) (C : SC) : Code :=
 (sq [(rg [(oQ 2 (.assign (.const (.string ⟨#[]⟩))) E.tStr)]),
  (rg [(oQ 3 (.move (.tmp 0)) E.tStr),
   (oQ 4 (.call { callee := .value (.func C.QreplaceAll), args := #[(.tmp 3), (.const (.string ⟨#[46]⟩)), (.const (.string ⟨#[]⟩))], argTypes := #[E.tStr, E.tStr, E.tStr] }) E.tStr),
   (oQ 0 (.assign (.tmp 4)) E.tStr)]),
  (rg [(oQ 5 (.move (.tmp 0)) E.tStr),
   (oQ 6 (.call { callee := .value (.func C.QreplaceAll), args := #[(.tmp 5), (.const (.string ⟨#[95]⟩)), (.const (.string ⟨#[]⟩))], argTypes := #[E.tStr, E.tStr, E.tStr] }) E.tStr),
   (oQ 0 (.assign (.tmp 6)) E.tStr)]),
  (rg [(oQ 7 (.move (.tmp 0)) E.tStr),
   (oQ 8 (.call { callee := .value (.func C.QreplaceAll), args := #[(.tmp 7), (.const (.string ⟨#[45]⟩)), (.const (.string ⟨#[]⟩))], argTypes := #[E.tStr, E.tStr, E.tStr] }) E.tStr),
   (oQ 0 (.assign (.tmp 8)) E.tStr)]),
  (rg [(oQ 9 (.move (.tmp 0)) E.tStr),
   (oQ 10 (.call { callee := .value (.func C.TRIMSP), args := #[(.tmp 9)], argTypes := #[E.tStr] }) E.tStr),
   (oQ 0 (.assign (.tmp 10)) E.tStr)]),
  (rg [(oQ 11 (.move (.tmp 0)) E.tStr),
   (oQ 12 (.call { callee := .value (.func C.TOLOW), args := #[(.tmp 11)], argTypes := #[E.tStr] }) E.tStr),
   (oQ 0 (.assign (.tmp 12)) E.tStr)]),
  (rg [(oQ 13 (.move (.tmp 0)) E.tStr),
   (oQ 2 (.assign (.tmp 13)) E.tStr)]),
  .ret])
def c_errNew (E : Env) (C : SC) : Code :=
 (sq [(rg [(oQ 2 (.assign (.const .nilIface)) E.tErr)]),
  (rg [(oQ 3 (.move (.tmp 0)) E.tStr),
   (oQ 4 (.build C.tEs #[(0, (.tmp 3))]) C.tEs),
   (oQ 5 (.box C.tEs (.tmp 4)) C.tPEs),
   (oQ 6 (.makeInterface C.tPEs (.tmp 5)) E.tErr),
   (oQ 2 (.assign (.tmp 6)) E.tErr)]),
  .ret])
def c_specParsed (E : Env) (C : SC) : Code :=
 (sq [(rg [(oQ 4 (.assign (.const (.int .i64 0))) E.tI),
   (oQ 5 (.assign (.const (.bool false))) E.tO)]),
  (sq [(rg [(oQ 8 (.move (.tmp 0)) C.tNames),
    (oQ 9 (.call { callee := .builtin .len, args := #[(.tmp 8)], argTypes := #[C.tNames] }) E.tI),
    (oQ 10 (.move (.const (.int .i64 0))) E.tI)]),
   (.block 0 (.loop (sq [(rg [(oQ 11 (.binOp .lss E.tI (.tmp 10) (.tmp 9) E.tI) 0)]),
      (.cond (.tmp 11)
       .skip
       (.exit 0)),
      (.block 1 (sq [(rg [(oQ 12 (.indexAddr C.tNames (.tmp 8) (.tmp 10)) 0),
         (oQ 13 (.load C.tName (.tmp 12)) C.tName),
         (oQ 7 (.alloc C.tName) 0),
         ⟨none, .store C.tName (.tmp 7) (.tmp 13), 0, "", #[], none⟩]),
        (rg [(oQ 14 (.fieldAddr C.tName (.tmp 7) 1) 0),
         (oQ 15 (.load E.tStr (.tmp 14)) E.tStr),
         (oQ 16 (.call { callee := .value (.func C.Qnormal), args := #[(.tmp 15)], argTypes := #[E.tStr] }) E.tStr),
         (oQ 17 (.move (.tmp 1)) E.tStr),
         (oQ 18 (.call { callee := .value (.func C.Qnormal), args := #[(.tmp 17)], argTypes := #[E.tStr] }) E.tStr),
         (oQ 19 (.binOp .eql E.tStr (.tmp 16) (.tmp 18) E.tStr) E.tO)]),
        (.cond (.tmp 19)
         (sq [(rg [(oQ 20 (.fieldAddr C.tName (.tmp 7) 0) 0),
           (oQ 21 (.load E.tI (.tmp 20)) E.tI),
           (oQ 4 (.assign (.tmp 21)) E.tI),
           (oQ 5 (.assign (.const (.bool true))) E.tO)]),
          .ret])
         .skip)])),
      (rg [(oQ 22 (.binOp .add E.tI (.tmp 10) (.const (.int .i64 1)) E.tI) E.tI),
       (oQ 10 (.move (.tmp 22)) E.tI)])])))]),
  (rg [(oQ 4 (.assign (.const (.int .i64 0))) E.tI),
   (oQ 5 (.assign (.const (.bool false))) E.tO)]),
  .ret])
def c_parsed (E : Env) (C : SC) : Code :=
 (sq [(rg [(oQ 8 (.assign (.const (.bool false))) E.tO)]),
  (rg [(oQ 12 (.move (.tmp 0)) C.tNames),
   (oQ 13 (.move (.tmp 1)) E.tStr),
   (oQ 14 (.call { callee := .value (.func C.QspecParsed), args := #[(.tmp 12), (.tmp 13)], argTypes := #[C.tNames, E.tStr] }) C.tRes),
   (oQ 11 (.move (.tmp 14)) C.tRes),
   (oQ 15 (.extract (.tmp 11) 0) E.tI),
   (oQ 16 (.extract (.tmp 11) 1) E.tO),
   (oQ 9 (.assign (.tmp 15)) E.tI),
   (oQ 10 (.assign (.tmp 16)) E.tO)]),
  (rg [(oQ 17 (.move (.tmp 3)) E.tO),
   (oQ 18 (.move (.tmp 10)) E.tO),
   (oQ 19 (.binOp .eql E.tO (.tmp 17) (.tmp 18) E.tO) E.tO),
   (oQ 20 (.move (.tmp 19)) E.tO),
   ⟨some 21, .move (.tmp 3), E.tO, "", #[], some (3, true)⟩,
   ⟨some 22, .unOp .not E.tO (.tmp 21), E.tO, "", #[], some (3, true)⟩,
   ⟨some 23, .move (.tmp 22), E.tO, "", #[], some (3, true)⟩,
   ⟨some 24, .move (.tmp 2), E.tI, "", #[], some (6, false)⟩,
   ⟨some 25, .move (.tmp 9), E.tI, "", #[], some (6, false)⟩,
   ⟨some 26, .binOp .eql E.tI (.tmp 24) (.tmp 25) E.tI, E.tO, "", #[], some (6, false)⟩,
   ⟨some 27, .pick (.tmp 23) (.const (.bool true)) (.tmp 26), E.tO, "", #[], some (3, true)⟩,
   (oQ 28 (.pick (.tmp 20) (.tmp 27) (.const (.bool false))) E.tO),
   (oQ 8 (.assign (.tmp 28)) E.tO)]),
  .ret])
def c_plain (E : Env) (C : SC) : Code :=
  (sq [(rg [(oQ 2 (.assign (.const (.bool false))) E.tO)]),
    (sq [(rg [(oQ 4 (.move (.tmp 0)) E.tStr),
        (oQ 5 (.call { callee := .builtin .len, args := #[(.tmp 4)], argTypes := #[E.tStr] }) E.tI),
        (oQ 6 (.binOp .gtr E.tI (.tmp 5) (.const (.int .i64 200)) E.tI) E.tO),
        (oQ 7 (.move (.tmp 6)) E.tO),
        ⟨some 8, .move (.tmp 0), E.tStr, "", #[], some (3, false)⟩,
        ⟨some 9, .call { callee := .value (.func C.Qnormal), args := #[(.tmp 8)], argTypes := #[E.tStr] }, E.tStr, "", #[], some (3, false)⟩,
        ⟨some 10, .binOp .eql E.tStr (.tmp 9) (.const (.string ⟨#[117, 110, 107, 110, 111, 119, 110]⟩)) E.tStr, E.tO, "", #[], some (3, false)⟩,
        (oQ 11 (.pick (.tmp 7) (.const (.bool true)) (.tmp 10)) E.tO)]),
      (.cond (.tmp 11)
        (sq [(rg [(oQ 2 (.assign (.const (.bool false))) E.tO)]),
          .ret])
        .skip)]),
    (sq [(rg [(oQ 3 (.assign (.const (.int .i64 0))) E.tI)]),
      (.block 0 (.loop (sq [(sq [(rg [(oQ 12 (.move (.tmp 3)) E.tI),
                (oQ 13 (.move (.tmp 0)) E.tStr),
                (oQ 14 (.call { callee := .builtin .len, args := #[(.tmp 13)], argTypes := #[E.tStr] }) E.tI),
                (oQ 15 (.binOp .lss E.tI (.tmp 12) (.tmp 14) E.tI) E.tO)]),
              (.cond (.tmp 15)
                .skip
                (.exit 0))]),
            (.block 1 (sq [(rg [(oQ 18 (.move (.tmp 0)) E.tStr),
                  (oQ 19 (.move (.tmp 3)) E.tI),
                  (oQ 20 (.index E.tStr (.tmp 18) (.tmp 19)) E.tU8),
                  (oQ 21 (.binOp .gtr E.tU8 (.tmp 20) (.const (.int .u8 127)) E.tU8) E.tO)]),
                (.cond (.tmp 21)
                  (sq [(rg [(oQ 2 (.assign (.const (.bool false))) E.tO)]),
                    .ret])
                  .skip)])),
            (rg [(oQ 16 (.move (.tmp 3)) E.tI),
              (oQ 17 (.binOp .add E.tI (.tmp 16) (.const (.int .i64 1)) E.tI) E.tI),
              (oQ 3 (.assign (.tmp 17)) E.tI)])])))]),
    (rg [(oQ 2 (.assign (.const (.bool true))) E.tO)]),
    .ret])
def c_word (E : Env) (C : SC) : Code :=
 (sq [(rg [(oQ 4 (.assign (.const (.string ⟨#[]⟩))) E.tStr),
   (oQ 5 (.assign (.const (.bool false))) E.tO)]),
  (sq [(rg [(oQ 8 (.move (.tmp 0)) C.tNames),
    (oQ 9 (.call { callee := .builtin .len, args := #[(.tmp 8)], argTypes := #[C.tNames] }) E.tI),
    (oQ 10 (.move (.const (.int .i64 0))) E.tI)]),
   (.block 0 (.loop (sq [(rg [(oQ 11 (.binOp .lss E.tI (.tmp 10) (.tmp 9) E.tI) 0)]),
      (.cond (.tmp 11)
       .skip
       (.exit 0)),
      (.block 1 (sq [(rg [(oQ 12 (.indexAddr C.tNames (.tmp 8) (.tmp 10)) 0),
         (oQ 13 (.load C.tName (.tmp 12)) C.tName),
         (oQ 7 (.alloc C.tName) 0),
         ⟨none, .store C.tName (.tmp 7) (.tmp 13), 0, "", #[], none⟩]),
        (rg [(oQ 14 (.fieldAddr C.tName (.tmp 7) 0) 0),
         (oQ 15 (.load E.tI (.tmp 14)) E.tI),
         (oQ 16 (.move (.tmp 1)) E.tI),
         (oQ 17 (.binOp .eql E.tI (.tmp 15) (.tmp 16) E.tI) E.tO)]),
        (.cond (.tmp 17)
         (sq [(rg [(oQ 18 (.fieldAddr C.tName (.tmp 7) 1) 0),
           (oQ 19 (.load E.tStr (.tmp 18)) E.tStr),
           (oQ 4 (.assign (.tmp 19)) E.tStr),
           (oQ 5 (.assign (.const (.bool true))) E.tO)]),
          .ret])
         .skip)])),
      (rg [(oQ 20 (.binOp .add E.tI (.tmp 10) (.const (.int .i64 1)) E.tI) E.tI),
       (oQ 10 (.move (.tmp 20)) E.tI)])])))]),
  (rg [(oQ 4 (.assign (.const (.string ⟨#[]⟩))) E.tStr),
   (oQ 5 (.assign (.const (.bool false))) E.tO)]),
  .ret])
attribute [local irreducible] vc rO_ runG runS runD
section
variable {P : Program} {a : Act} {w : World} {r : List Oper} {Q : Exit → Act → World → Prop}
theorem r_eqStr {d T x y yt ty p af g} {l m : List UInt8} (hx : a.eval x = .string ⟨l.toArray⟩) (hy : a.eval y = .string ⟨m.toArray⟩) (h : rO_ P Q r (a.put (some d) (.bool (decide (l = m)))) w) :
  rO_ P Q (⟨some d, .binOp .eql T x y yt, ty, p, af, g⟩ :: r) a w := by
 refine st ?_
 have hb : binOp .eql T (.string ⟨l.toArray⟩) (.string ⟨m.toArray⟩) = pure (.bool (decide (l = m))) := by
  rw [binOp_string_eql, ByteArray.toList_mk, ByteArray.toList_mk]
  congr 2
  by_cases h : l = m <;> simp [h]
 have hg : (eqGuard .eql T x y (.string ⟨l.toArray⟩) (.string ⟨m.toArray⟩)) = pure () := rfl
 simp only [Oper.wp, execOp, hx, hy, hg, hb, Sem.run_bind, Sem.run_pure, Result.andThen_ok, Oper.upon_value]
 exact h
theorem r_sliceStr {d T x i j ty p af g k k'} {l : List UInt8} {lo hi : Nat} (hT : P.underlying T = some .string) (hx : a.eval x = .string ⟨l.toArray⟩) (hi' : a.eval i = .int k (lo : Int)) (hj : a.eval j = .int k' (hi : Int)) (h1 : lo ≤ hi) (h2 : hi ≤ l.length)
  (h : rO_ P Q r (a.put (some d) (.string ⟨((l.drop lo).take (hi - lo)).toArray⟩)) w) : rO_ P Q (⟨some d, .slice T x (some i) (some j) none, ty, p, af, g⟩ :: r) a w := by
 refine st ?_
 have hr : (Instr.sliceAt T (a.eval x) (some (a.eval i)) (some (a.eval j)) none).run P w = .ok (.string ⟨((l.drop lo).take (hi - lo)).toArray⟩) w := by
  rw [hx, hi', hj, run_sliceAt_string w T _ _ _ _ hT, run_slice_string w T _ k k' lo hi hT (by omega) (by omega) (by rw [size_ba]; omega)]
  rw [ByteArray.extract_mk]
  rfl
 simp only [Oper.wp, execOp, Sem.run_bind, Option.map_none, Option.map_some, hr, Sem.run_pure, Result.andThen_ok, Oper.upon_value]
 exact h
theorem r_sliceStrTo {d T x j ty p af g k'} {l : List UInt8} {hi : Nat} (hT : P.underlying T = some .string) (hx : a.eval x = .string ⟨l.toArray⟩) (hj : a.eval j = .int k' (hi : Int)) (h2 : hi ≤ l.length)
  (h : rO_ P Q r (a.put (some d) (.string ⟨(l.take hi).toArray⟩)) w) : rO_ P Q (⟨some d, .slice T x none (some j) none, ty, p, af, g⟩ :: r) a w := by
 refine st ?_
 have hr : (Instr.sliceAt T (a.eval x) none (some (a.eval j)) none).run P w = .ok (.string ⟨(l.take hi).toArray⟩) w := by
  rw [hx, hj, run_sliceAt_string w T _ _ _ _ hT, run_slice_string_h w T _ hT k' hi (by omega) (by rw [size_ba]; omega)]
  rw [ByteArray.extract_mk]
  simp
 simp only [Oper.wp, execOp, Sem.run_bind, Option.map_none, Option.map_some, hr, Sem.run_pure, Result.andThen_ok, Oper.upon_value]
 exact h
theorem r_sliceStrFrom {d T x i ty p af g k} {l : List UInt8} {lo : Nat} (hT : P.underlying T = some .string) (hx : a.eval x = .string ⟨l.toArray⟩) (hi' : a.eval i = .int k (lo : Int)) (h1 : lo ≤ l.length)
  (h : rO_ P Q r (a.put (some d) (.string ⟨(l.drop lo).toArray⟩)) w) : rO_ P Q (⟨some d, .slice T x (some i) none none, ty, p, af, g⟩ :: r) a w := by
 refine st ?_
 have hr : (Instr.sliceAt T (a.eval x) (some (a.eval i)) none none).run P w = .ok (.string ⟨(l.drop lo).toArray⟩) w := by
  rw [hx, hi', run_sliceAt_string w T _ _ _ _ hT, run_slice_string_l w T _ hT k lo (by omega) (by rw [size_ba]; omega)]
  rw [ByteArray.extract_mk, size_ba]
  have e : ((l.drop lo).take (l.length - lo)) = l.drop lo := List.take_of_length_le (by rw [List.length_drop]; exact Nat.le_refl _)
  simp [e]
 simp only [Oper.wp, execOp, Sem.run_bind, Option.map_none, Option.map_some, hr, Sem.run_pure, Result.andThen_ok, Oper.upon_value]
 exact h
theorem r_convRow {d s t x ty p af g e v} {l : List UInt8} (hB : rowB P s e 1 = true) (he : intT P e = some .u8) (ht : strB P t = true) (hx : a.eval x = v) (hv : RowB w v l) (h : rO_ P Q r (a.put (some d) (.string ⟨l.toArray⟩)) w) :
  rO_ P Q (⟨some d, .convert s t x, ty, p, af, g⟩ :: r) a w := by
 rcases hv with ⟨rfl, rfl⟩ | ⟨q, o, cap, rfl, hc⟩
 ·exact r_convStr (sb := 0) hB he ht hx (.inl ⟨rfl, rfl⟩) h
 ·by_cases hcap : l.length ≤ cap
  ·exact r_convStr (sb := q) hB he ht hx (.inr ⟨o, cap, rfl, hcap, hc⟩) h
  ·refine st ?_
   obtain ⟨hu, _⟩ := rowB_inv hB
   have he' : P.underlying e = some (.int .u8) := by
    unfold intT at he
    split at he
    ·simp_all
    ·cases he
   have hr : (convert s t (a.eval x)).run P w = .ok (.string ⟨l.toArray⟩) w := by
    rw [hx]
    refine run_convert_bytes_back w s t e ⟨q, o, none⟩ cap l hu he' (strB_inv ht) (fun j hj => ?_)
    rw [Addr.add_lit]
    exact hc j _ (by rw [List.getElem?_map, List.getElem?_eq_getElem hj]; rfl)
   simp only [Oper.wp, execOp, Sem.run_bind, hr, Sem.run_pure, Result.andThen_ok, Oper.upon_value]
   exact h
end
end Go.Km
namespace Go.Km
open Go Go.RowKit
attribute [local irreducible] vc rO_ runG runS runD
def keepB (b : UInt8) : Bool := b != 46 && b != 95 && b != 45
def normalL (l : List UInt8) : List UInt8 := Lib.trimSpace ((l.map Lib.lowerB).filter keepB)
def strnormL (l : List UInt8) : List UInt8 := Lib.toLowerA (Lib.trimSpace (((l.filter (· != 46)).filter (· != 95)).filter (· != 45)))
theorem lower_facts : ∀ b : UInt8, keepB (Lib.lowerB b) = keepB b ∧ Lib.isSp (Lib.lowerB b) = Lib.isSp b := by
 intro b
 have h : ∀ n : Nat, n < 256 → keepB (Lib.lowerB (UInt8.ofNat n)) = keepB (UInt8.ofNat n) ∧ Lib.isSp (Lib.lowerB (UInt8.ofNat n)) = Lib.isSp (UInt8.ofNat n) := by decide +kernel
 have := h b.toNat b.toNat_lt
 simpa using this
theorem dropWhile_lower (l : List UInt8) : (l.map Lib.lowerB).dropWhile Lib.isSp = (l.dropWhile Lib.isSp).map Lib.lowerB := by
 induction l with
 | nil => rfl
 | cons b l ih =>
  simp only [List.map_cons, List.dropWhile_cons, (lower_facts b).2]
  split
  ·exact ih
  ·rfl
theorem trim_lower (l : List UInt8) : Lib.trimSpace (l.map Lib.lowerB) = (Lib.trimSpace l).map Lib.lowerB := by
 unfold Lib.trimSpace
 rw [dropWhile_lower, ← List.map_reverse, dropWhile_lower, List.map_reverse]
theorem filter_lower (l : List UInt8) : (l.map Lib.lowerB).filter keepB = (l.filter keepB).map Lib.lowerB := by
 induction l with
 | nil => rfl
 | cons b l ih =>
  simp only [List.map_cons, List.filter_cons, (lower_facts b).1, ih]
  split <;> rfl
theorem filter3 (l : List UInt8) : ((l.filter (· != 46)).filter (· != 95)).filter (· != 45) = l.filter keepB := by
 rw [List.filter_filter, List.filter_filter]
 refine List.filter_congr fun b _ => ?_
 unfold keepB
 cases (b != 46) <;> cases (b != 95) <;> cases (b != 45) <;> rfl
theorem strnorm_normal (l : List UInt8) : strnormL l = normalL l := by
 unfold strnormL normalL Lib.toLowerA
 rw [filter3, filter_lower, trim_lower]
structure YT (P : Program) (E : Env) (C : SC) : Prop where
 row : rowB P E.tB E.tU8 1 = true
 str : P.underlying E.tStr = some .string
 strB : strB P E.tStr = true
 u8 : intT P E.tU8 = some .u8
 oU8 : oneT P E.tU8 = true
 tblank : Text P C.Qblank 1 13 #[.tmp 2] (c_blank E C)
 tnormal : Text P C.Qnormal 1 67 #[.tmp 2] (c_normal E C)
 tindex : Text P C.Qindex 2 25 #[.tmp 4] (c_index E C)
 treplace : Text P C.QreplaceAll 3 67 #[.tmp 6] (c_replaceAll E C)
 tstrnorm : Text P C.Qstrnorm 1 14 #[.tmp 2] (c_strnorm E C)
section
variable {P : Program} {E : Env} {C : SC}
theorem c_blank_ok (H : YT P E C) (b : UInt8) (w : World) : CallsV P C.Qblank #[.int .u8 b.toNat] w fun v w' => v = .bool (Lib.isSp b) ∧ w' = w := by
 have hsp : Lib.isSp b = (decide ((b.toNat : Int) = 32) || (decide (9 ≤ (b.toNat : Int)) && decide ((b.toNat : Int) ≤ 13))) := by
  have h : ∀ n : Nat, n < 256 → Lib.isSp (UInt8.ofNat n) = (decide (n = 32) || (decide (9 ≤ n) && decide (n ≤ 13))) := by decide +kernel
  have h1 := h b.toNat b.toNat_lt
  rw [show UInt8.ofNat b.toNat = b by simp] at h1
  rw [h1]
  congr 1
  ·exact decide_eq_decide.2 (by omega)
  ·congr 1 <;> exact decide_eq_decide.2 (by omega)
 refine CallsV.enter H.tblank (by simp) ?_
 intro a hsz hdf harg
 have e0 := harg 0 (.int .u8 b.toNat) (by simp)
 unfold c_blank
 refine vX (rA (dn ?_))
 refine vS (vc_runS ?_)
 refine rD rfl (wN rfl) (rM (dn (rT ?_)))
 refine rD rfl (wN rfl) (r_eql (k := .u8) (m := (b.toNat : Int)) (n := 32) (by simp (disch := (try simp only [sP]); omega) only [eV, e0]) rfl (dn (rT ?_)))
 refine rD rfl (wN rfl) (rM (dn (rT ?_)))
 by_cases h32 : (b.toNat : Int) = 32
 ·have hb : ((b.toNat : Int) == 32) = true := by simpa using h32
  rw [hb]
  refine runS_no rfl (by rw [wS (b := true) rfl rfl (by simp (disch := (try simp only [sP]); omega) only [eV])]; rfl) ?_
  refine runS_no rfl (by rw [wS (b := true) rfl rfl (by simp (disch := (try simp only [sP]); omega) only [eV])]; rfl) ?_
  refine runS_no rfl (by rw [wS (b := true) rfl rfl (by simp (disch := (try simp only [sP]); omega) only [eV])]; rfl) ?_
  refine runS_no rfl (wants_undef rfl rfl (by simp (disch := (try simp only [sP]); omega) only [eV]) (by simp only [zP, hsz]; decide)) ?_
  refine runS_no rfl (wants_undef rfl rfl (by simp (disch := (try simp only [sP]); omega) only [eV]) (by simp only [zP, hsz]; decide)) ?_
  refine runS_no rfl (by rw [wS (b := true) rfl rfl (by simp (disch := (try simp only [sP]); omega) only [eV])]; rfl) ?_
  refine rD rfl (wN rfl) (r_pickT (by simp (disch := (try simp only [sP]); omega) only [eV]) (dn (rT ?_)))
  refine rD rfl (wN rfl) (rA (dn (rT ?_)))
  refine runS_nil ?_
  refine vS (vT ?_)
  refine ⟨by simp only [dF]; exact hdf, .bool true, rO (by simp (disch := (try simp only [sP]); omega) only [eV]), ?_, rfl⟩
  rw [hsp]
  simp [h32]
 ·have hb : ((b.toNat : Int) == 32) = false := by simpa using h32
  rw [hb]
  refine rD rfl (by rw [wS (b := false) rfl rfl (by simp (disch := (try simp only [sP]); omega) only [eV])]; rfl) (rM (dn (rT ?_)))
  refine rD rfl (by rw [wS (b := false) rfl rfl (by simp (disch := (try simp only [sP]); omega) only [eV])]; rfl) (r_geq (k := .u8) (m := (b.toNat : Int)) (n := 9) (by simp (disch := (try simp only [sP]); omega) only [eV, e0]) rfl (dn (rT ?_)))
  refine rD rfl (by rw [wS (b := false) rfl rfl (by simp (disch := (try simp only [sP]); omega) only [eV])]; rfl) (rM (dn (rT ?_)))
  by_cases h9 : (b.toNat : Int) ≥ 9
  ·have h9' : decide ((b.toNat : Int) ≥ 9) = true := by simpa using h9
   rw [h9']
   refine rD rfl (by rw [wS (b := true) rfl rfl (by simp (disch := (try simp only [sP]); omega) only [eV])]; rfl) (rM (dn (rT ?_)))
   refine rD rfl (by rw [wS (b := true) rfl rfl (by simp (disch := (try simp only [sP]); omega) only [eV])]; rfl) (r_leq (k := .u8) (m := (b.toNat : Int)) (n := 13) (by simp (disch := (try simp only [sP]); omega) only [eV, e0]) rfl (dn (rT ?_)))
   refine rD rfl (by rw [wS (b := false) rfl rfl (by simp (disch := (try simp only [sP]); omega) only [eV])]; rfl) (r_pickT (by simp (disch := (try simp only [sP]); omega) only [eV]) (dn (rT ?_)))
   refine rD rfl (wN rfl) (r_pickF (by simp (disch := (try simp only [sP]); omega) only [eV]) (dn (rT ?_)))
   refine rD rfl (wN rfl) (rA (dn (rT ?_)))
   refine runS_nil ?_
   refine vS (vT ?_)
   refine ⟨by simp only [dF]; exact hdf, .bool (decide ((b.toNat : Int) ≤ 13)), rO (by simp (disch := (try simp only [sP]); omega) only [eV]), ?_, rfl⟩
   rw [hsp]
   simp [h32, h9]
  ·have h9' : decide ((b.toNat : Int) ≥ 9) = false := by simpa using h9
   rw [h9']
   refine runS_no rfl (by rw [wS (b := false) rfl rfl (by simp (disch := (try simp only [sP]); omega) only [eV])]; rfl) ?_
   refine runS_no rfl (by rw [wS (b := false) rfl rfl (by simp (disch := (try simp only [sP]); omega) only [eV])]; rfl) ?_
   refine rD rfl (by rw [wS (b := false) rfl rfl (by simp (disch := (try simp only [sP]); omega) only [eV])]; rfl) (r_pickF (by simp (disch := (try simp only [sP]); omega) only [eV]) (dn (rT ?_)))
   refine rD rfl (wN rfl) (r_pickF (by simp (disch := (try simp only [sP]); omega) only [eV]) (dn (rT ?_)))
   refine rD rfl (wN rfl) (rA (dn (rT ?_)))
   refine runS_nil ?_
   refine vS (vT ?_)
   refine ⟨by simp only [dF]; exact hdf, .bool false, rO (by simp (disch := (try simp only [sP]); omega) only [eV]), ?_, rfl⟩
   rw [hsp]
   simp [h32]
   omega
theorem c_index_ok (H : YT P E C) (hint : intT P E.tI = some .i64) (l : List UInt8) (b : UInt8) (hl : l.length ≤ big) (w : World) : CallsV P C.Qindex #[.string ⟨l.toArray⟩, .string ⟨[b].toArray⟩] w fun v w' => w' = w ∧ ((∃ i : Nat, v = .int .i64 i ∧ l[i]? = some b ∧ ∀ j : Nat, j < i → l[j]? ≠ some b) ∨ (v = .int .i64 (-1) ∧ ∀ j : Nat, l[j]? ≠ some b)) := by
 unfold big at hl
 refine CallsV.enter H.tindex (by simp) ?_
 intro a hsz hdf harg
 have e0 := harg 0 (.string ⟨l.toArray⟩) (by simp)
 have e1 := harg 1 (.string ⟨[b].toArray⟩) (by simp)
 unfold c_index
 refine vX (rA (dn (vS (vX (rA (dn ?_))))))
 have hsb : (⟨[b].toArray⟩ : ByteArray).size = 1 := rfl
 refine vS (vc_block (vc_count (fun m A W => ∃ i : Nat, i + m = l.length ∧ A.tmps.size = 25 ∧ A.defers = [] ∧ A.eval (.tmp 0) = .string ⟨l.toArray⟩ ∧ A.eval (.tmp 1) = .string ⟨[b].toArray⟩ ∧ A.eval (.tmp 5) = .int .i64 i ∧ W = w ∧ ∀ j : Nat, j < i → l[j]? ≠ some b) l.length ?_ ?_ ?_))
 ·exact ⟨0, by omega, by simp only [zP]; exact hsz, by simp only [dF]; exact hdf, (by simp (disch := (try simp only [sP]); omega) only [eV, e0]), (by simp (disch := (try simp only [sP]); omega) only [eV, e1]), by simp (disch := (try simp only [sP]); omega) only [eV]; rfl, rfl, fun j hj => by omega⟩
 ·rintro m A W ⟨i, him, hs, hd, h0, h1, h5, rfl, hno⟩
  refine vS (vX (rM (rM ?_)))
  refine r_lenStr (s := ⟨[b].toArray⟩) H.str (by simp (disch := (try simp only [sP]); omega) only [eV, h1]) ?_
  rw [hsb]
  refine r_add (k := .i64) (m := (i : Int)) (n := 1) (by simp (disch := (try simp only [sP]); omega) only [eV, h5]) (by simp (disch := (try simp only [sP]); omega) only [eV]; rfl) ?_
  rw [wrap_i64 (by omega) (by omega)]
  refine rM ?_
  refine r_lenStr (s := ⟨l.toArray⟩) H.str (by simp (disch := (try simp only [sP]); omega) only [eV, h0]) ?_
  rw [size_ba]
  refine r_leq (k := .i64) (m := (i : Int) + 1) (n := (l.length : Int)) (by simp (disch := (try simp only [sP]); omega) only [eV]) (by simp (disch := (try simp only [sP]); omega) only [eV]) ?_
  refine dn ?_
  refine vS (vC (t := true) (by simp (disch := (try simp only [sP]); omega) only [eV]; simp only [Value.bool.injEq, decide_eq_true_eq]; omega) ?_ (fun h => by cases h))
  intro _
  refine vK (vN ?_)
  have hi : i < l.length := by omega
  have hb1 : (l.drop i).take (i + 1 - i) = [l[i]] := by
   rw [show i + 1 - i = 1 by omega, List.drop_eq_getElem_cons hi]
   rfl
  refine vS (vc_block (vX ?_))
  refine rM (rM (rM (rM ?_)))
  refine r_lenStr (s := ⟨[b].toArray⟩) H.str (by simp (disch := (try simp only [sP]); omega) only [eV, h1]) ?_
  rw [hsb]
  refine r_add (k := .i64) (m := (i : Int)) (n := 1) (by simp (disch := (try simp only [sP]); omega) only [eV, h5]) (by simp (disch := (try simp only [sP]); omega) only [eV]; rfl) ?_
  rw [wrap_i64 (by omega) (by omega)]
  refine r_sliceStr (l := l) (lo := i) (hi := i + 1) (k := .i64) (k' := .i64) H.str (by simp (disch := (try simp only [sP]); omega) only [eV, h0]) (by simp (disch := (try simp only [sP]); omega) only [eV, h5]) (by simp (disch := (try simp only [sP]); omega) only [eV]; rfl) (by omega) (by omega) ?_
  rw [hb1]
  refine rM ?_
  refine r_eqStr (l := [l[i]]) (m := [b]) (by simp (disch := (try simp only [sP]); omega) only [eV]) (by simp (disch := (try simp only [sP]); omega) only [eV, h1]) ?_
  refine dn ?_
  refine vS (vC (t := decide ([l[i]] = [b])) (by simp (disch := (try simp only [sP]); omega) only [eV]) ?_ ?_)
  ·intro h
   have hb : l[i] = b := by simpa using h
   refine vX (rM (rA (dn (vS (vT ?_)))))
   exact ⟨by simp only [dF]; exact hd, .int .i64 i, rO (by simp (disch := (try simp only [sP]); omega) only [eV, h5]), rfl, .inl ⟨i, rfl, by rw [List.getElem?_eq_getElem hi, hb], hno⟩⟩
  ·intro h
   have hb : l[i] ≠ b := by simpa using h
   refine vK (vN ?_)
   simp only [Exit.inBlock]
   refine vX (rM ?_)
   refine r_add (k := .i64) (m := (i : Int)) (n := 1) (by simp (disch := (try simp only [sP]); omega) only [eV, h5]) (by simp (disch := (try simp only [sP]); omega) only [eV]) ?_
   rw [wrap_i64 (by omega) (by omega)]
   refine rA (dn (vN ?_))
   refine ⟨i + 1, by omega, by simp only [zP]; exact hs, by simp only [dF]; exact hd, (by simp (disch := (try simp only [sP]); omega) only [eV, h0]), (by simp (disch := (try simp only [sP]); omega) only [eV, h1]), by simp (disch := (try simp only [sP]); omega) only [eV]; rfl, rfl, fun j hj => ?_⟩
   rcases Nat.lt_or_ge j i with h' | h'
   ·exact hno j h'
   ·have : j = i := by omega
    subst this
    rw [List.getElem?_eq_getElem hi]
    simpa using hb
 ·rintro A W ⟨i, him, hs, hd, h0, h1, h5, rfl, hno⟩
  refine vS (vX (rM (rM ?_)))
  refine r_lenStr (s := ⟨[b].toArray⟩) H.str (by simp (disch := (try simp only [sP]); omega) only [eV, h1]) ?_
  rw [hsb]
  refine r_add (k := .i64) (m := (i : Int)) (n := 1) (by simp (disch := (try simp only [sP]); omega) only [eV, h5]) (by simp (disch := (try simp only [sP]); omega) only [eV]; rfl) ?_
  rw [wrap_i64 (by omega) (by omega)]
  refine rM ?_
  refine r_lenStr (s := ⟨l.toArray⟩) H.str (by simp (disch := (try simp only [sP]); omega) only [eV, h0]) ?_
  rw [size_ba]
  refine r_leq (k := .i64) (m := (i : Int) + 1) (n := (l.length : Int)) (by simp (disch := (try simp only [sP]); omega) only [eV]) (by simp (disch := (try simp only [sP]); omega) only [eV]) ?_
  refine dn ?_
  refine vS (vC (t := false) (by simp (disch := (try simp only [sP]); omega) only [eV]; simp only [Value.bool.injEq, decide_eq_false_iff_not]; omega) (fun h => by cases h) ?_)
  intro _
  refine vc_exit ?_
  simp only [Exit.then, Exit.inBlock, if_true]
  refine vN (vX (rA (dn (vS (vT ?_)))))
  refine ⟨by simp only [dF]; exact hd, .int .i64 (-1), rO (by simp (disch := (try simp only [sP]); omega) only [eV]), rfl, .inr ⟨rfl, fun j => ?_⟩⟩
  rcases Nat.lt_or_ge j i with h' | h'
  ·exact hno j h'
  ·rw [List.getElem?_eq_none (by omega)]
   simp
theorem filter_none {l : List UInt8} {b : UInt8} (h : ∀ j : Nat, l[j]? ≠ some b) : l.filter (· != b) = l := by
 refine List.filter_eq_self.2 fun x hx => ?_
 obtain ⟨j, hj⟩ := List.mem_iff_getElem?.1 hx
 have : x ≠ b := fun e => h j (by rw [hj, e])
 simpa using this
theorem filter_first {l : List UInt8} {b : UInt8} {i : Nat} (hi : l[i]? = some b) (h : ∀ j : Nat, j < i → l[j]? ≠ some b) : l.filter (· != b) = l.take i ++ (l.drop (i + 1)).filter (· != b) := by
 have hlt := (List.getElem?_eq_some_iff.1 hi).1
 have h1 : (l.take i).filter (· != b) = l.take i := filter_none fun j hj => by
  rw [List.getElem?_take] at hj
  split at hj
  ·rename_i hji; exact h j hji hj
  ·cases hj
 have h2 : l = l.take i ++ l.drop i := (List.take_append_drop i l).symm
 have h3 : l.drop i = b :: l.drop (i + 1) := by
  rw [List.drop_eq_getElem_cons hlt]
  congr 1
  exact (List.getElem?_eq_some_iff.1 hi).2
 conv => lhs; rw [h2]
 rw [List.filter_append, h1, h3, List.filter_cons]
 simp
theorem c_replace_ok (H : YT P E C) (hint : intT P E.tI = some .i64) (l : List UInt8) (b : UInt8) (hl : l.length ≤ 1000000) (w : World) : CallsV P C.QreplaceAll #[.string ⟨l.toArray⟩, .string ⟨[b].toArray⟩, .string ⟨#[]⟩] w fun v w' => v = .string ⟨(l.filter (· != b)).toArray⟩ ∧ Below w.heap.size w w' := by
  refine CallsV.enter H.treplace (by simp) ?_
  intro a hsz hdf harg
  have e0 := harg 0 (.string ⟨l.toArray⟩) (by simp)
  have e1 := harg 1 (.string ⟨[b].toArray⟩) (by simp)
  have e2 := harg 2 (.string ⟨#[]⟩) (by simp)
  have hsb : (⟨[b].toArray⟩ : ByteArray).size = 1 := rfl
  unfold c_replaceAll
  refine vX (rA (dn (vX (rA (dn (vS (vX (rM ?_))))))))
  refine r_lenStr (s := ⟨[b].toArray⟩) H.str (by simp (disch := (try simp only [sP]); omega) only [eV, e1]) ?_
  rw [hsb]
  refine r_eql (k := .i64) (m := 1) (n := 0) (by simp (disch := (try simp only [sP]); omega) only [eV]; rfl) rfl ?_
  refine dn ?_
  refine vS (vC (t := false) (by simp (disch := (try simp only [sP]); omega) only [eV]; rfl) (fun h => by cases h) ?_)
  intro _
  refine vK (vN ?_)
  have key : ∀ (A : Act) (W : World) (s xs : List UInt8) (Q : Exit → Act → World → Prop), A.tmps.size = 67 → A.defers = [] → A.eval (.tmp 0) = .string ⟨s.toArray⟩ → A.eval (.tmp 1) = .string ⟨[b].toArray⟩ → A.eval (.tmp 2) = .string ⟨#[]⟩ → Below w.heap.size w W → W.ownsRow w.heap.size E.tU8 1 (A.eval (.tmp 7)) xs.length (xs.map bv) → xs ++ s.filter (· != b) = l.filter (· != b) → s.length ≤ l.length → xs.length ≤ l.length →
      (∀ i : Nat, s[i]? = some b → ∀ A' W', A'.tmps.size = 67 → A'.defers = [] → A'.eval (.tmp 0) = .string ⟨(s.drop (i + 1)).toArray⟩ → A'.eval (.tmp 1) = .string ⟨[b].toArray⟩ → A'.eval (.tmp 2) = .string ⟨#[]⟩ → Below w.heap.size w W' → W'.ownsRow w.heap.size E.tU8 1 (A'.eval (.tmp 7)) (xs ++ s.take i).length ((xs ++ s.take i).map bv) → (xs ++ s.take i) ++ (s.drop (i + 1)).filter (· != b) = l.filter (· != b) → Q .normal A' W') →
      (∀ A' W', Out P #[.tmp 6] (fun v w' => v = .string ⟨(l.filter (· != b)).toArray⟩ ∧ Below w.heap.size w w') .ret A' W' → Q .ret A' W') →
      vc P (.block 3 (sq [(rg [(oQ 45 (.move (.tmp 0)) E.tStr),
              (oQ 46 (.move (.tmp 1)) E.tStr),
              (oQ 47 (.call { callee := .value (.func C.Qindex), args := #[(.tmp 45), (.tmp 46)], argTypes := #[E.tStr, E.tStr] }) E.tI),
              (oQ 10 (.assign (.tmp 47)) E.tI)]),
            (sq [(rg [(oQ 48 (.move (.tmp 10)) E.tI),
                (oQ 49 (.binOp .lss E.tI (.tmp 48) (.const (.int .i64 0)) E.tI) E.tO)]),
              (.cond (.tmp 49)
                (sq [(rg [(oQ 50 (.move (.tmp 7)) E.tB),
                    (oQ 51 (.move (.tmp 0)) E.tStr),
                    (oQ 52 (.call { callee := .builtin .append, args := #[(.tmp 50), (.tmp 51)], argTypes := #[E.tB, E.tStr] }) E.tB),
                    (oQ 53 (.convert E.tB E.tStr (.tmp 52)) E.tStr),
                    (oQ 6 (.assign (.tmp 53)) E.tStr)]),
                  .ret])
                .skip)]),
            (rg [(oQ 54 (.move (.tmp 7)) E.tB),
              (oQ 55 (.move (.tmp 0)) E.tStr),
              (oQ 56 (.move (.tmp 10)) E.tI),
              (oQ 57 (.slice E.tStr (.tmp 55) none (some (.tmp 56)) none) E.tStr),
              (oQ 58 (.call { callee := .builtin .append, args := #[(.tmp 54), (.tmp 57)], argTypes := #[E.tB, E.tStr] }) E.tB),
              (oQ 59 (.move (.tmp 2)) E.tStr),
              (oQ 60 (.call { callee := .builtin .append, args := #[(.tmp 58), (.tmp 59)], argTypes := #[E.tB, E.tStr] }) E.tB),
              (oQ 7 (.assign (.tmp 60)) E.tB)]),
            (rg [(oQ 61 (.move (.tmp 0)) E.tStr),
              (oQ 62 (.move (.tmp 10)) E.tI),
              (oQ 63 (.move (.tmp 1)) E.tStr),
              (oQ 64 (.call { callee := .builtin .len, args := #[(.tmp 63)], argTypes := #[E.tStr] }) E.tI),
              (oQ 65 (.binOp .add E.tI (.tmp 62) (.tmp 64) E.tI) E.tI),
              (oQ 66 (.slice E.tStr (.tmp 61) (some (.tmp 65)) none none) E.tStr),
              (oQ 0 (.assign (.tmp 66)) E.tStr)])])) Q A W := by
    intro A W s xs Q hs hd h0 h1 h2 hbW hown hxs hsl hxl kn kr
    refine vc_block (vX ?_)
    refine rM (rM ?_)
    refine r_call' (args := #[.string ⟨s.toArray⟩, .string ⟨[b].toArray⟩]) ?_ (c_index_ok H hint s b (by unfold big; omega) W) ?_
    · simp only [lM]
      simp (disch := (try simp only [sP]); omega) only [eV, h0, h1]
    rintro v W1 ⟨rfl, hv⟩
    refine rA (dn ?_)
    rcases hv with ⟨i, rfl, hi, hno⟩ | ⟨rfl, hno⟩
    · have hlt := (List.getElem?_eq_some_iff.1 hi).1
      refine vS (vX (rM ?_))
      refine r_lss (k := .i64) (m := (i : Int)) (n := 0) (by simp (disch := (try simp only [sP]); omega) only [eV]) rfl ?_
      refine dn ?_
      refine vS (vC (t := false) (by simp (disch := (try simp only [sP]); omega) only [eV]; simp only [Value.bool.injEq, decide_eq_false_iff_not]; omega) (fun h => by cases h) ?_)
      intro _
      refine vK (vN ?_)
      generalize hG : Act.put _ (some 49) _ = G
      have hsG : G.tmps.size = 67 := by rw [← hG]; simp only [zP]; exact hs
      have hdG : G.defers = [] := by rw [← hG]; simp only [dF]; exact hd
      have k0 : G.eval (.tmp 0) = .string ⟨s.toArray⟩ := by rw [← hG]; simp (disch := (try simp only [sP]); omega) only [eV, h0]
      have k1 : G.eval (.tmp 1) = .string ⟨[b].toArray⟩ := by rw [← hG]; simp (disch := (try simp only [sP]); omega) only [eV, h1]
      have k2 : G.eval (.tmp 2) = .string ⟨#[]⟩ := by rw [← hG]; simp (disch := (try simp only [sP]); omega) only [eV, h2]
      have k7 : G.eval (.tmp 7) = A.eval (.tmp 7) := by rw [← hG]; simp (disch := (try simp only [sP]); omega) only [eV]
      have k10 : G.eval (.tmp 10) = .int .i64 i := by rw [← hG]; simp (disch := (try simp only [sP]); omega) only [eV]
      clear hG
      have hz := hbW.size
      refine vX (rM (rM (rM ?_)))
      refine r_sliceStrTo (l := s) (hi := i) (k' := .i64) H.str (by simp (disch := (try simp only [sP]); omega) only [eV, k0]) (by simp (disch := (try simp only [sP]); omega) only [eV, k10]) (by omega) ?_
      refine r_append (U := w.heap.size) (v := A.eval (.tmp 7)) (n := xs.length) (xs := xs.map bv) (u := .string ⟨(s.take i).toArray⟩) (m := (s.take i).length) (news := (s.take i).map bv) H.row (by simp (disch := (try simp only [sP]); omega) only [eV, k7]) (by simp (disch := (try simp only [sP]); omega) only [eV]) hown hz (src_str H.str _) (by rw [List.length_take]; unfold big; omega) ?_
      intro v5 W5 hown5 hb5
      have hown5' : W5.ownsRow w.heap.size E.tU8 1 v5 (xs ++ s.take i).length ((xs ++ s.take i).map bv) := by rw [List.map_append, List.length_append]; exact hown5
      have hz5 := hb5.size
      refine rM ?_
      refine r_append (U := w.heap.size) (v := v5) (n := (xs ++ s.take i).length) (xs := (xs ++ s.take i).map bv) (u := .string ⟨#[]⟩) (m := 0) (news := []) H.row (by simp (disch := (try simp only [sP]); omega) only [eV]) (by simp (disch := (try simp only [sP]); omega) only [eV, k2]) hown5' (by omega) (src_str (w := W5) H.str []) (by rw [List.length_append, List.length_take]; unfold big; omega) ?_
      intro v6 W6 hown6 hb6
      rw [List.append_nil, Nat.add_zero] at hown6
      refine rA (dn ?_)
      generalize hG2 : Act.put _ (some 7) _ = G2
      have hsG2 : G2.tmps.size = 67 := by rw [← hG2]; simp only [zP]; exact hsG
      have hdG2 : G2.defers = [] := by rw [← hG2]; simp only [dF]; exact hdG
      have k0 : G2.eval (.tmp 0) = .string ⟨s.toArray⟩ := by rw [← hG2]; simp (disch := (try simp only [sP]); omega) only [eV, k0]
      have k1 : G2.eval (.tmp 1) = .string ⟨[b].toArray⟩ := by rw [← hG2]; simp (disch := (try simp only [sP]); omega) only [eV, k1]
      have k2 : G2.eval (.tmp 2) = .string ⟨#[]⟩ := by rw [← hG2]; simp (disch := (try simp only [sP]); omega) only [eV, k2]
      have k7 : G2.eval (.tmp 7) = v6 := by rw [← hG2]; simp (disch := (try simp only [sP]); omega) only [eV]
      have k10 : G2.eval (.tmp 10) = .int .i64 i := by rw [← hG2]; simp (disch := (try simp only [sP]); omega) only [eV, k10]
      clear hG2
      refine vX (rM (rM (rM ?_)))
      refine r_lenStr (s := ⟨[b].toArray⟩) H.str (by simp (disch := (try simp only [sP]); omega) only [eV, k1]) ?_
      rw [hsb]
      refine r_add (k := .i64) (m := (i : Int)) (n := 1) (by simp (disch := (try simp only [sP]); omega) only [eV, k10]) (by simp (disch := (try simp only [sP]); omega) only [eV]; rfl) ?_
      rw [wrap_i64 (by omega) (by omega)]
      refine r_sliceStrFrom (l := s) (lo := i + 1) (k := .i64) H.str (by simp (disch := (try simp only [sP]); omega) only [eV, k0]) (by simp (disch := (try simp only [sP]); omega) only [eV]; rfl) (by omega) ?_
      refine rA (dn (vN ?_))
      simp only [Exit.inBlock]
      refine kn i hi _ _ (by simp only [zP]; exact hsG2) (by simp only [dF]; exact hdG2) (by simp (disch := (try simp only [sP]); omega) only [eV]) (by simp (disch := (try simp only [sP]); omega) only [eV, k1]) (by simp (disch := (try simp only [sP]); omega) only [eV, k2]) (hbW.trans (hb5.trans hb6)) (by rw [show Act.eval _ (.tmp 7) = v6 by simp (disch := (try simp only [sP]); omega) only [eV, k7]]; exact hown6) ?_
      rw [List.append_assoc, ← filter_first hi hno, hxs]
    · refine vS (vX ?_)
      refine rM ?_
      refine r_lss (k := .i64) (m := -1) (n := 0) (by simp (disch := (try simp only [sP]); omega) only [eV]) rfl ?_
      refine dn ?_
      refine vS (vC (t := true) (by simp (disch := (try simp only [sP]); omega) only [eV]; rfl) ?_ (fun h => by cases h))
      intro _
      refine vX (rM (rM ?_))
      refine r_append (U := w.heap.size) (v := A.eval (.tmp 7)) (n := xs.length) (xs := xs.map bv) (u := .string ⟨s.toArray⟩) (m := s.length) (news := s.map bv) H.row (by simp (disch := (try simp only [sP]); omega) only [eV]) (by simp (disch := (try simp only [sP]); omega) only [eV, h0]) hown hbW.size (src_str H.str _) (by unfold big; omega) ?_
      intro v5 W5 hown5 hb5
      have hown5' : W5.ownsRow w.heap.size E.tU8 1 v5 (xs ++ s).length ((xs ++ s).map bv) := by rw [List.map_append, List.length_append]; exact hown5
      refine r_convRow (l := xs ++ s) H.row H.u8 H.strB (by simp (disch := (try simp only [sP]); omega) only [eV]) (RowB.of_own hown5') ?_
      refine rA (dn (vS (vT ?_)))
      simp only [Exit.then, Exit.inBlock]
      refine kr _ _ ⟨by simp only [dF]; exact hd, .string ⟨(xs ++ s).toArray⟩, rO (by simp (disch := (try simp only [sP]); omega) only [eV]), ?_, hbW.trans hb5⟩
      rw [← hxs, filter_none hno]
  have h0 : w.ownsRow w.heap.size E.tU8 1 (.slice none 0 0) 0 [] := World.ownsRow_nil ..
  refine vS (vc_block (vc_count (fun m A W => ∃ s xs : List UInt8, s.length ≤ m ∧ A.tmps.size = 67 ∧ A.defers = [] ∧ A.eval (.tmp 0) = .string ⟨s.toArray⟩ ∧ A.eval (.tmp 1) = .string ⟨[b].toArray⟩ ∧ A.eval (.tmp 2) = .string ⟨#[]⟩ ∧ Below w.heap.size w W ∧ W.ownsRow w.heap.size E.tU8 1 (A.eval (.tmp 7)) xs.length (xs.map bv) ∧ xs ++ s.filter (· != b) = l.filter (· != b) ∧ s.length ≤ l.length ∧ xs.length ≤ l.length) l.length ?_ ?_ ?_))
  · exact ⟨l, [], Nat.le_refl _, by simp only [zP]; exact hsz, by simp only [dF]; exact hdf, (by simp (disch := (try simp only [sP]); omega) only [eV, e0]), (by simp (disch := (try simp only [sP]); omega) only [eV, e1]), (by simp (disch := (try simp only [sP]); omega) only [eV, e2]), Below.refl _ _, by rw [show Act.eval _ (.tmp 7) = .slice none 0 0 by simp (disch := (try simp only [sP]); omega) only [eV]]; exact h0, rfl, Nat.le_refl _, Nat.zero_le _⟩
  · rintro m A W ⟨s, xs, hsm, hs, hd, h0, h1, h2, hb, hown, hxs, hsl, hxl⟩
    refine key A W s xs _ hs hd h0 h1 h2 hb hown hxs hsl hxl ?_ (fun A' W' h => h)
    intro i hi A' W' hs' hd' h0' h1' h2' hb' hown' hxs'
    have hlt := (List.getElem?_eq_some_iff.1 hi).1
    refine ⟨s.drop (i + 1), xs ++ s.take i, by rw [List.length_drop]; omega, hs', hd', h0', h1', h2', hb', hown', hxs', by rw [List.length_drop]; omega, ?_⟩
    have h3 : ((xs ++ s.take i) ++ (s.drop (i + 1)).filter (· != b)).length ≤ l.length := by rw [hxs']; exact List.length_filter_le _ _
    rw [List.length_append] at h3
    omega
  · rintro A W ⟨s, xs, hsm, hs, hd, h0, h1, h2, hb, hown, hxs, hsl, hxl⟩
    refine key A W s xs _ hs hd h0 h1 h2 hb hown hxs hsl hxl ?_ (fun A' W' h => h)
    intro i hi
    have hlt := (List.getElem?_eq_some_iff.1 hi).1
    omega
end
end Go.Km
namespace Go.Km
open Go Go.RowKit
attribute [local irreducible] vc rO_ runG runS runD
def sliceN : Value → Nat | .slice _ n _ => n | _ => 0
def intN : Value → Nat | .int _ i => i.toNat | _ => 0
def RowC (w : World) (v : Value) (l : List UInt8) : Prop :=
 ∃ ad cap, v = .slice ad l.length cap ∧ l.length ≤ cap ∧ ((ad = none ∧ cap = 0 ∧ l = []) ∨ ∃ q o, ad = some ⟨q, o, none⟩ ∧ Cells w q o (l.map bv))
theorem RowC.of_own {w : World} {U : Nat} {e : TypeId} {v : Value} {l : List UInt8} (h : w.ownsRow U e 1 v l.length (l.map bv)) : RowC w v l := by
 have hB := RowB.of_own h
 rcases h.2 with ⟨rfl, h0⟩ | ⟨g, cap, cur, rfl, hbg, hg, hnc, hcm, hcs, htake⟩
 ·have : l = [] := List.eq_nil_of_length_eq_zero h0
  subst this
  exact ⟨none, 0, rfl, Nat.le_refl _, .inl ⟨rfl, rfl, rfl⟩⟩
 ·rcases hB with ⟨hv, rfl⟩ | ⟨q, o, cap', hv, hc⟩
  ·cases hv
  ·cases hv
   exact ⟨_, _, rfl, hnc, .inr ⟨_, _, rfl, hc⟩⟩
theorem RowC.row {w : World} {v : Value} {l : List UInt8} (h : RowC w v l) : RowB w v l := by
 obtain ⟨ad, cap, rfl, hcap, ⟨rfl, rfl, rfl⟩ | ⟨q, o, rfl, hc⟩⟩ := h
 ·exact .inl ⟨rfl, rfl⟩
 ·exact .inr ⟨q, o, cap, rfl, hc⟩
theorem RowC.tail {w : World} {q o cap : Nat} {b : UInt8} {t : List UInt8} (hc : Cells w q o ((b :: t).map bv)) (hcap : t.length + 1 ≤ cap) :
  RowC w (.slice (if cap = 1 then some ⟨q, o, none⟩ else (some (⟨q, o, none⟩ : Addr)).map (·.add (1 * 1))) (t.length + 1 - 1) (cap - 1)) t := by
 refine ⟨_, _, rfl, by omega, .inr ?_⟩
 cases t with
 | nil =>
  by_cases h1 : cap = 1
  ·rw [if_pos h1]
   exact ⟨q, o, rfl, fun i u hu => by simp at hu⟩
  ·rw [if_neg h1, map_add]
   exact ⟨q, _, rfl, fun i u hu => by simp at hu⟩
 | cons c t =>
  refine ⟨q, o + 1, ?_, ?_⟩
  ·rw [if_neg (by simp only [List.length_cons] at hcap; omega), map_add]
  ·intro i u hu
   have := hc (i + 1) u (by simpa using hu)
   rw [show o + 1 + i = o + (i + 1) by omega]
   exact this
theorem RowC.init {w : World} {q o cap : Nat} {b : UInt8} {t : List UInt8} (hc : Cells w q o ((t ++ [b]).map bv)) (hcap : t.length + 1 ≤ cap) :
  RowC w (.slice (if cap = 0 then some ⟨q, o, none⟩ else (some (⟨q, o, none⟩ : Addr)).map (·.add (0 * 1))) (t.length - 0) (cap - 0)) t := by
 refine ⟨_, _, rfl, by omega, .inr ⟨q, o, ?_, ?_⟩⟩
 ·rw [if_neg (by omega), map_add]
  simp
 ·intro i u hu
  refine hc i u ?_
  rw [List.map_append, List.getElem?_append_left]
  ·exact hu
  ·exact (List.getElem?_eq_some_iff.1 hu).1
theorem wrap_u8 (n : Int) : IntKind.u8.wrap n = n % 256 := by simp [IntKind.wrap, IntKind.bits, IntKind.signed]
theorem ba_get (l : List UInt8) (i : Nat) : (⟨l.toArray⟩ : ByteArray)[i]? = l[i]? := by
 by_cases h : i < l.length
 ·rw [getElem?_pos (⟨l.toArray⟩ : ByteArray) i (by rw [size_ba]; exact h), List.getElem?_eq_getElem h]
  rfl
 ·rw [getElem?_neg (⟨l.toArray⟩ : ByteArray) i (by rw [size_ba]; exact h), List.getElem?_eq_none (by omega)]
theorem lower_num (b : UInt8) : (Lib.lowerB b).toNat = if 65 ≤ b.toNat ∧ b.toNat ≤ 90 then b.toNat + 32 else b.toNat := by
 have h : ∀ n : Nat, n < 256 → (Lib.lowerB (UInt8.ofNat n)).toNat = if 65 ≤ (UInt8.ofNat n).toNat ∧ (UInt8.ofNat n).toNat ≤ 90 then (UInt8.ofNat n).toNat + 32 else (UInt8.ofNat n).toNat := by decide +kernel
 have := h b.toNat b.toNat_lt
 simpa using this
theorem keep_num (b : UInt8) : keepB b = (((b.toNat : Int) != 46) && (((b.toNat : Int) != 95) && ((b.toNat : Int) != 45))) := by
 have h : ∀ n : Nat, n < 256 → keepB (UInt8.ofNat n) = (((n : Int) != 46) && (((n : Int) != 95) && ((n : Int) != 45))) := by decide +kernel
 have := h b.toNat b.toNat_lt
 simpa using this
theorem drop_keep {b : UInt8} {t : List UInt8} (h : Lib.isSp b = false) : (b :: t).dropWhile Lib.isSp = b :: t := by
 rw [List.dropWhile_cons, h]
 rfl
theorem drop_go {b : UInt8} {t : List UInt8} (h : Lib.isSp b = true) : (b :: t).dropWhile Lib.isSp = t.dropWhile Lib.isSp := by
 rw [List.dropWhile_cons, h]
 rfl
section
variable {P : Program} {E : Env} {C : SC}
set_option maxHeartbeats 1000000 in
theorem c_normal_ok (H : YT P E C) (l : List UInt8) (hl : l.length ≤ 1000000) (w : World) : CallsV P C.Qnormal #[.string ⟨l.toArray⟩] w fun v w' => v = .string ⟨(normalL l).toArray⟩ ∧ Below w.heap.size w w' := by
  have hsl := rB H.row
  refine CallsV.enter H.tnormal (by simp) ?_
  intro a hsz hdf harg
  have e0 := harg 0 (.string ⟨l.toArray⟩) (by simp)
  have hnil : w.ownsRow w.heap.size E.tU8 1 (.slice none 0 0) 0 [] := World.ownsRow_nil ..
  unfold c_normal
  refine vX (rA (dn (vX (rA (dn ?_)))))
  refine vS (vc_mono _ (Q := fun e A W => e = .normal ∧ A.tmps.size = 67 ∧ A.defers = [] ∧ Below w.heap.size w W ∧ RowC W (A.eval (.tmp 3)) ((l.map Lib.lowerB).filter keepB)) ?_ ?_)
  · refine vX ?_
    refine rA (dn ?_)
    refine vS (vc_block (vc_loop (fun A W => ∃ i xs, i ≤ l.length ∧ A.tmps.size = 67 ∧ A.defers = [] ∧ A.eval (.tmp 0) = .string ⟨l.toArray⟩ ∧ A.eval (.tmp 4) = .int .i64 (i : Nat) ∧ Below w.heap.size w W ∧ W.ownsRow w.heap.size E.tU8 1 (A.eval (.tmp 3)) xs.length (xs.map bv) ∧ xs = ((l.take i).map Lib.lowerB).filter keepB) (fun A _ => l.length - intN (A.eval (.tmp 4))) ?_ ?_))
    · exact ⟨0, [], by omega, by simp only [zP]; exact hsz, by simp only [dF]; exact hdf, (by simp (disch := (try simp only [sP]); omega) only [eV, e0]), by simp (disch := (try simp only [sP]); omega) only [eV]; rfl, Below.refl _ _, by rw [show Act.eval _ (.tmp 3) = .slice none 0 0 by simp (disch := (try simp only [sP]); omega) only [eV]]; exact hnil, rfl⟩
    rintro A W ⟨i, xs, hil, hs, hd, h0, h4, hb, hown, hxs⟩
    refine vS (vX (rM (rM ?_)))
    refine r_lenStr (s := ⟨l.toArray⟩) H.str (by simp (disch := (try simp only [sP]); omega) only [eV, h0]) ?_
    rw [size_ba]
    refine r_lss (k := .i64) (m := (i : Int)) (n := (l.length : Int)) (by simp (disch := (try simp only [sP]); omega) only [eV, h4]) (by simp (disch := (try simp only [sP]); omega) only [eV]) ?_
    refine dn ?_
    by_cases hge : l.length ≤ i
    · refine vS (vC (t := false) (by simp (disch := (try simp only [sP]); omega) only [eV]; simp only [Value.bool.injEq, decide_eq_false_iff_not]; omega) (fun h => by cases h) ?_)
      intro _
      refine vc_exit ?_
      simp only [Exit.then, Exit.inBlock, if_true]
      refine vN ⟨rfl, by simp only [zP]; exact hs, by simp only [dF]; exact hd, hb, ?_⟩
      rw [show Act.eval _ (.tmp 3) = A.eval (.tmp 3) by simp (disch := (try simp only [sP]); omega) only [eV]]
      have : i = l.length := by omega
      rw [this, List.take_length] at hxs
      rw [← hxs]
      exact RowC.of_own hown
    have hlt : i < l.length := by omega
    refine vS (vC (t := true) (by simp (disch := (try simp only [sP]); omega) only [eV]; simp only [Value.bool.injEq, decide_eq_true_eq]; omega) ?_ (fun h => by cases h))
    intro _
    refine vK (vN ?_)
    obtain ⟨b, hbi⟩ : ∃ b, l[i]? = some b := ⟨l[i], List.getElem?_eq_getElem hlt⟩
    have hba : (⟨l.toArray⟩ : ByteArray)[i]? = some b := by rw [ba_get]; exact hbi
    have hb8 := b.toNat_lt
    have hc8 := (Lib.lowerB b).toNat_lt
    refine vS (vc_block (vX ?_))
    refine rM (rM ?_)
    refine r_indexStr (j := i) (k := .i64) H.str (by simp (disch := (try simp only [sP]); omega) only [eV, h0]) (by simp (disch := (try simp only [sP]); omega) only [eV, h4]) hba ?_
    refine rA (dn ?_)
    refine vS (vc_mono _ (Q := fun e A' W' => e = .normal ∧ A'.tmps.size = 67 ∧ A'.defers = [] ∧ W' = W ∧ A'.eval (.tmp 0) = .string ⟨l.toArray⟩ ∧ A'.eval (.tmp 3) = A.eval (.tmp 3) ∧ A'.eval (.tmp 4) = .int .i64 (i : Nat) ∧ A'.eval (.tmp 5) = .int .u8 ((Lib.lowerB b).toNat : Nat)) ?_ ?_)
    · refine vS (vc_runS ?_)
      refine rD rfl (wN rfl) (rM (dn (rT ?_)))
      refine rD rfl (wN rfl) (r_geq (k := .u8) (m := (b.toNat : Int)) (n := 65) (by simp (disch := (try simp only [sP]); omega) only [eV]) rfl (dn (rT ?_)))
      refine rD rfl (wN rfl) (rM (dn (rT ?_)))
      by_cases h65 : (b.toNat : Int) ≥ 65
      · have h65' : decide ((b.toNat : Int) ≥ 65) = true := by simpa using h65
        rw [h65']
        refine rD rfl (by rw [wS (b := true) rfl rfl (by simp (disch := (try simp only [sP]); omega) only [eV])]; rfl) (rM (dn (rT ?_)))
        refine rD rfl (by rw [wS (b := true) rfl rfl (by simp (disch := (try simp only [sP]); omega) only [eV])]; rfl) (r_leq (k := .u8) (m := (b.toNat : Int)) (n := 90) (by simp (disch := (try simp only [sP]); omega) only [eV]) rfl (dn (rT ?_)))
        refine rD rfl (wN rfl) (r_pickT (by simp (disch := (try simp only [sP]); omega) only [eV]) (dn (rT ?_)))
        refine runS_nil ?_
        refine vS (vC (t := decide ((b.toNat : Int) ≤ 90)) (by simp (disch := (try simp only [sP]); omega) only [eV]) ?_ ?_)
        · intro h
          have h90 : (b.toNat : Int) ≤ 90 := by simpa using h
          refine vR (by simp) ?_
          refine rM ?_
          refine r_add (k := .u8) (m := (b.toNat : Int)) (n := 32) (by simp (disch := (try simp only [sP]); omega) only [eV]) rfl ?_
          rw [show IntKind.u8.wrap ((b.toNat : Int) + 32) = (((Lib.lowerB b).toNat : Nat) : Int) by rw [lower_num, if_pos (by omega), wrap_u8]; omega]
          refine rA (dn (vN ?_))
          exact ⟨rfl, by simp only [zP]; exact hs, by simp only [dF]; exact hd, rfl, (by simp (disch := (try simp only [sP]); omega) only [eV, h0]), (by simp (disch := (try simp only [sP]); omega) only [eV]), (by simp (disch := (try simp only [sP]); omega) only [eV, h4]), (by simp (disch := (try simp only [sP]); omega) only [eV])⟩
        · intro h
          have h90 : ¬ (b.toNat : Int) ≤ 90 := by simpa using h
          refine vK (vN ?_)
          refine ⟨rfl, by simp only [zP]; exact hs, by simp only [dF]; exact hd, rfl, (by simp (disch := (try simp only [sP]); omega) only [eV, h0]), (by simp (disch := (try simp only [sP]); omega) only [eV]), (by simp (disch := (try simp only [sP]); omega) only [eV, h4]), ?_⟩
          rw [lower_num, if_neg (by omega)]
          exact (by simp (disch := (try simp only [sP]); omega) only [eV])
      · have h65' : decide ((b.toNat : Int) ≥ 65) = false := by simpa using h65
        rw [h65']
        refine runS_no rfl (by rw [wS (b := false) rfl rfl (by simp (disch := (try simp only [sP]); omega) only [eV])]; rfl) ?_
        refine runS_no rfl (by rw [wS (b := false) rfl rfl (by simp (disch := (try simp only [sP]); omega) only [eV])]; rfl) ?_
        refine rD rfl (wN rfl) (r_pickF (by simp (disch := (try simp only [sP]); omega) only [eV]) (dn (rT ?_)))
        refine runS_nil ?_
        refine vS (vC (t := false) (by simp (disch := (try simp only [sP]); omega) only [eV]) (fun h => by cases h) ?_)
        intro _
        refine vK (vN ?_)
        refine ⟨rfl, by simp only [zP]; exact hs, by simp only [dF]; exact hd, rfl, (by simp (disch := (try simp only [sP]); omega) only [eV, h0]), (by simp (disch := (try simp only [sP]); omega) only [eV]), (by simp (disch := (try simp only [sP]); omega) only [eV, h4]), ?_⟩
        rw [lower_num, if_neg (by omega)]
        exact (by simp (disch := (try simp only [sP]); omega) only [eV])
    rintro e A2 W2 ⟨rfl, hs2, hd2, rfl, h02, h32, h42, h52⟩
    -- what stays
    have next : ∀ (A3 : Act) (W3 : World) (ys : List UInt8), A3.tmps.size = 67 → A3.defers = [] → A3.eval (.tmp 0) = .string ⟨l.toArray⟩ → A3.eval (.tmp 4) = .int .i64 (i : Nat) → Below w.heap.size w W3 → W3.ownsRow w.heap.size E.tU8 1 (A3.eval (.tmp 3)) ys.length (ys.map bv) → ys = ((l.take (i + 1)).map Lib.lowerB).filter keepB →
        vc P (sq [(rg [(oQ 10 (.move (.tmp 4)) E.tI),
              (oQ 11 (.binOp .add E.tI (.tmp 10) (.const (.int .i64 1)) E.tI) E.tI),
              (oQ 4 (.assign (.tmp 11)) E.tI)])]) (Exit.then (fun a' w' => (∃ i xs, i ≤ l.length ∧ a'.tmps.size = 67 ∧ a'.defers = [] ∧ a'.eval (.tmp 0) = .string ⟨l.toArray⟩ ∧ a'.eval (.tmp 4) = .int .i64 (i : Nat) ∧ Below w.heap.size w w' ∧ w'.ownsRow w.heap.size E.tU8 1 (a'.eval (.tmp 3)) xs.length (xs.map bv) ∧ xs = ((l.take i).map Lib.lowerB).filter keepB) ∧ l.length - intN (a'.eval (.tmp 4)) < l.length - intN (A.eval (.tmp 4))) (Exit.inBlock 0 (Exit.then (fun a' w' => vc P (sq []) (fun e A W => e = .normal ∧ A.tmps.size = 67 ∧ A.defers = [] ∧ Below w.heap.size w W ∧ RowC W (A.eval (.tmp 3)) ((l.map Lib.lowerB).filter keepB)) a' w') (fun e A W => e = .normal ∧ A.tmps.size = 67 ∧ A.defers = [] ∧ Below w.heap.size w W ∧ RowC W (A.eval (.tmp 3)) ((l.map Lib.lowerB).filter keepB))))) A3 W3 := by
      intro A3 W3 ys hs3 hd3 h03 h43 hb3 hown3 hys
      refine vX (rM ?_)
      refine r_add (k := .i64) (m := (i : Int)) (n := 1) (by simp (disch := (try simp only [sP]); omega) only [eV, h43]) (by simp (disch := (try simp only [sP]); omega) only [eV]) ?_
      rw [wrap_i64 (by omega) (by omega)]
      refine rA (dn (vN ?_))
      refine ⟨⟨i + 1, ys, by omega, by simp only [zP]; exact hs3, by simp only [dF]; exact hd3, (by simp (disch := (try simp only [sP]); omega) only [eV, h03]), by simp (disch := (try simp only [sP]); omega) only [eV]; rfl, hb3, by rw [show Act.eval _ (.tmp 3) = A3.eval (.tmp 3) by simp (disch := (try simp only [sP]); omega) only [eV]]; exact hown3, hys⟩, ?_⟩
      rw [show Act.eval _ (.tmp 4) = .int .i64 ((i : Int) + 1) by simp (disch := (try simp only [sP]); omega) only [eV], h4]
      simp only [intN]
      omega
    have htake : ((l.take (i + 1)).map Lib.lowerB).filter keepB = xs ++ (if keepB (Lib.lowerB b) = true then [Lib.lowerB b] else []) := by
      rw [List.take_add_one, hbi, List.map_append, List.filter_append, ← hxs]
      simp only [Option.toList_some, List.map_cons, List.map_nil, List.filter_cons, List.filter_nil]
    refine vS (vc_runS ?_)
    generalize hgc : Lib.lowerB b = c at *
    have hk := keep_num c
    refine rD rfl (wN rfl) (rM (dn (rT ?_)))
    refine rD rfl (wN rfl) (r_neq (k := .u8) (m := (c.toNat : Int)) (n := 46) (by simp (disch := (try simp only [sP]); omega) only [eV, h52]) rfl (dn (rT ?_)))
    refine rD rfl (wN rfl) (rM (dn (rT ?_)))
    have tail : ∀ (A3 : Act) (Qx : Exit → Act → World → Prop), A3.tmps.size = 67 → A3.defers = [] → A3.eval (.tmp 0) = .string ⟨l.toArray⟩ → A3.eval (.tmp 3) = A.eval (.tmp 3) → A3.eval (.tmp 4) = .int .i64 (i : Nat) → A3.eval (.tmp 5) = .int .u8 (c.toNat : Nat) → A3.eval (.tmp 32) = .bool (keepB c) →
        (∀ (A4 : Act) (W4 : World) (ys : List UInt8), A4.tmps.size = 67 → A4.defers = [] → A4.eval (.tmp 0) = .string ⟨l.toArray⟩ → A4.eval (.tmp 4) = .int .i64 (i : Nat) → Below w.heap.size w W4 → W4.ownsRow w.heap.size E.tU8 1 (A4.eval (.tmp 3)) ys.length (ys.map bv) → ys = ((l.take (i + 1)).map Lib.lowerB).filter keepB → Qx .normal A4 W4) →
        vc P (sq [(.cond (.tmp 32)
                  (rg [(oQ 33 (.move (.tmp 3)) E.tB),
                    (oQ 34 (.move (.tmp 5)) E.tU8),
                    (oQ 35 (.buildSlice E.tB 1 #[(0, (.tmp 34))]) E.tB),
                    (oQ 36 (.call { callee := .builtin .append, args := #[(.tmp 33), (.tmp 35)], argTypes := #[E.tB, E.tB] }) E.tB),
                    (oQ 3 (.assign (.tmp 36)) E.tB)])
                  .skip)]) Qx A3 W2 := by
      intro A3 Qx hs3 hd3 h03 h33 h43 h53 h323 kn
      refine vS (vC (t := keepB c) (by simp (disch := (try simp only [sP]); omega) only [eV, h323]) ?_ ?_)
      · intro h
        rw [if_pos h] at htake
        refine vR (by simp) ?_
        refine rM (rM ?_)
        have hxl : xs.length ≤ l.length := by
          rw [hxs]
          refine Nat.le_trans (List.length_filter_le _ _) ?_
          rw [List.length_map, List.length_take]
          omega
        refine r_litApp (e := E.tU8) (U := w.heap.size) (v := A.eval (.tmp 3)) (xs := xs) (zs := [(c.toNat : Int)]) H.row ?_ (by intro z hz; simp only [List.mem_singleton] at hz; subst hz; omega) rfl (by omega) (by omega) (by simp (disch := (try simp only [sP]); omega) only [eV, h33]) (by decide) (by simp only [zP]; omega) hown hb.size (by unfold big; omega) ?_
        · simp only [lM]
          simp (disch := (try simp only [sP]); omega) only [eV, h53]
          rfl
        intro v' w' hown' hb'
        refine rA (dn (vN ?_))
        have hz : [(c.toNat : Int)].map o8 = [c] := by simp [o8]
        rw [hz] at hown'
        exact kn _ _ (xs ++ [c]) (by simp only [zP]; exact hs3) (by simp only [dF]; exact hd3) (by simp (disch := (try simp only [sP]); omega) only [eV, h03]) (by simp (disch := (try simp only [sP]); omega) only [eV, h43]) (hb.trans hb') (by rw [show Act.eval _ (.tmp 3) = v' by simp (disch := (try simp only [sP]); omega) only [eV]]; exact hown') htake.symm
      · intro h
        rw [if_neg (by rw [h]; simp), List.append_nil] at htake
        refine vK (vN ?_)
        exact kn _ _ xs hs3 hd3 h03 h43 hb (by rw [h33]; exact hown) htake.symm
    by_cases h46 : (c.toNat : Int) = 46
    · have hne : ((c.toNat : Int) != 46) = false := by simpa using h46
      rw [hne] at hk ⊢
      refine runS_no rfl (by rw [wS (b := false) rfl rfl (by simp (disch := (try simp only [sP]); omega) only [eV])]; rfl) ?_
      refine runS_no rfl (by rw [wS (b := false) rfl rfl (by simp (disch := (try simp only [sP]); omega) only [eV])]; rfl) ?_
      refine rD rfl (wN rfl) (r_pickF (by simp (disch := (try simp only [sP]); omega) only [eV]) (dn (rT ?_)))
      refine rD rfl (wN rfl) (rM (dn (rT ?_)))
      refine runS_no rfl (by rw [wS (b := false) rfl rfl (by simp (disch := (try simp only [sP]); omega) only [eV])]; rfl) ?_
      refine runS_no rfl (by rw [wS (b := false) rfl rfl (by simp (disch := (try simp only [sP]); omega) only [eV])]; rfl) ?_
      refine rD rfl (wN rfl) (r_pickF (by simp (disch := (try simp only [sP]); omega) only [eV]) (dn (rT ?_)))
      refine runS_nil ?_
      refine tail _ _ (by simp only [zP]; exact hs2) (by simp only [dF]; exact hd2) (by simp (disch := (try simp only [sP]); omega) only [eV, h02]) (by simp (disch := (try simp only [sP]); omega) only [eV, h32]) (by simp (disch := (try simp only [sP]); omega) only [eV, h42]) (by simp (disch := (try simp only [sP]); omega) only [eV, h52]) (by rw [hk]; simp (disch := (try simp only [sP]); omega) only [eV]; rfl) ?_
      intro A4 W4 ys q1 q2 q3 q4 q5 q6 q7
      exact next A4 W4 ys q1 q2 q3 q4 q5 q6 q7
    · have hne : ((c.toNat : Int) != 46) = true := by simpa using h46
      rw [hne] at hk ⊢
      refine rD rfl (by rw [wS (b := true) rfl rfl (by simp (disch := (try simp only [sP]); omega) only [eV])]; rfl) (rM (dn (rT ?_)))
      refine rD rfl (by rw [wS (b := true) rfl rfl (by simp (disch := (try simp only [sP]); omega) only [eV])]; rfl) (r_neq (k := .u8) (m := (c.toNat : Int)) (n := 95) (by simp (disch := (try simp only [sP]); omega) only [eV, h52]) rfl (dn (rT ?_)))
      refine rD rfl (wN rfl) (r_pickT (by simp (disch := (try simp only [sP]); omega) only [eV]) (dn (rT ?_)))
      refine rD rfl (wN rfl) (rM (dn (rT ?_)))
      by_cases h95 : (c.toNat : Int) = 95
      · have hne : ((c.toNat : Int) != 95) = false := by simpa using h95
        rw [hne] at hk ⊢
        refine runS_no rfl (by rw [wS (b := false) rfl rfl (by simp (disch := (try simp only [sP]); omega) only [eV])]; rfl) ?_
        refine runS_no rfl (by rw [wS (b := false) rfl rfl (by simp (disch := (try simp only [sP]); omega) only [eV])]; rfl) ?_
        refine rD rfl (wN rfl) (r_pickF (by simp (disch := (try simp only [sP]); omega) only [eV]) (dn (rT ?_)))
        refine runS_nil ?_
        refine tail _ _ (by simp only [zP]; exact hs2) (by simp only [dF]; exact hd2) (by simp (disch := (try simp only [sP]); omega) only [eV, h02]) (by simp (disch := (try simp only [sP]); omega) only [eV, h32]) (by simp (disch := (try simp only [sP]); omega) only [eV, h42]) (by simp (disch := (try simp only [sP]); omega) only [eV, h52]) (by rw [hk]; simp (disch := (try simp only [sP]); omega) only [eV]; rfl) ?_
        intro A4 W4 ys q1 q2 q3 q4 q5 q6 q7
        exact next A4 W4 ys q1 q2 q3 q4 q5 q6 q7
      · have hne : ((c.toNat : Int) != 95) = true := by simpa using h95
        rw [hne] at hk ⊢
        refine rD rfl (by rw [wS (b := true) rfl rfl (by simp (disch := (try simp only [sP]); omega) only [eV])]; rfl) (rM (dn (rT ?_)))
        refine rD rfl (by rw [wS (b := true) rfl rfl (by simp (disch := (try simp only [sP]); omega) only [eV])]; rfl) (r_neq (k := .u8) (m := (c.toNat : Int)) (n := 45) (by simp (disch := (try simp only [sP]); omega) only [eV, h52]) rfl (dn (rT ?_)))
        refine rD rfl (wN rfl) (r_pickT (by simp (disch := (try simp only [sP]); omega) only [eV]) (dn (rT ?_)))
        refine runS_nil ?_
        refine tail _ _ (by simp only [zP]; exact hs2) (by simp only [dF]; exact hd2) (by simp (disch := (try simp only [sP]); omega) only [eV, h02]) (by simp (disch := (try simp only [sP]); omega) only [eV, h32]) (by simp (disch := (try simp only [sP]); omega) only [eV, h42]) (by simp (disch := (try simp only [sP]); omega) only [eV, h52]) (by rw [hk]; simp (disch := (try simp only [sP]); omega) only [eV]; rfl) ?_
        intro A4 W4 ys q1 q2 q3 q4 q5 q6 q7
        exact next A4 W4 ys q1 q2 q3 q4 q5 q6 q7
  rintro e A W ⟨rfl, hs, hd, hb, hrow⟩
  have hxl : ((l.map Lib.lowerB).filter keepB).length ≤ l.length := Nat.le_trans (List.length_filter_le _ _) (by rw [List.length_map]; exact Nat.le_refl _)
  have hdone : Lib.trimSpace ((l.map Lib.lowerB).filter keepB) = normalL l := rfl
  generalize ((l.map Lib.lowerB).filter keepB) = xs at *
  refine vS (vc_mono _ (Q := fun e A W => e = .normal ∧ A.tmps.size = 67 ∧ A.defers = [] ∧ Below w.heap.size w W ∧ RowC W (A.eval (.tmp 3)) (xs.dropWhile Lib.isSp)) ?_ ?_)
  · refine vc_block (vc_loop (fun A W => ∃ ys, A.tmps.size = 67 ∧ A.defers = [] ∧ Below w.heap.size w W ∧ RowC W (A.eval (.tmp 3)) ys ∧ ys.dropWhile Lib.isSp = xs.dropWhile Lib.isSp) (fun A _ => sliceN (A.eval (.tmp 3))) ⟨xs, hs, hd, hb, hrow, rfl⟩ ?_)
    rintro A W ⟨ys, hs, hd, hb, ⟨ad, cap, hv, hcap, hc⟩, hys⟩
    refine vS (vS (vc_runS ?_))
    refine rD rfl (wN rfl) (rM (dn (rT ?_)))
    refine rD rfl (wN rfl) (r_len (ad := ad) (n := ys.length) (c := cap) hsl (by simp (disch := (try simp only [sP]); omega) only [eV, hv]) (dn (rT ?_)))
    refine rD rfl (wN rfl) (r_gtr (k := .i64) (m := (ys.length : Int)) (n := 0) (by simp (disch := (try simp only [sP]); omega) only [eV]) rfl (dn (rT ?_)))
    refine rD rfl (wN rfl) (rM (dn (rT ?_)))
    cases ys with
    | nil =>
      rw [show decide (((([] : List UInt8).length : Nat) : Int) > 0) = false by rfl]
      refine runS_no rfl (by rw [wS (b := false) rfl rfl (by simp (disch := (try simp only [sP]); omega) only [eV])]; rfl) ?_
      refine runS_no rfl (by rw [wS (b := false) rfl rfl (by simp (disch := (try simp only [sP]); omega) only [eV])]; rfl) ?_
      refine runS_no rfl (by rw [wS (b := false) rfl rfl (by simp (disch := (try simp only [sP]); omega) only [eV])]; rfl) ?_
      refine runS_no rfl (by rw [wS (b := false) rfl rfl (by simp (disch := (try simp only [sP]); omega) only [eV])]; rfl) ?_
      refine rD rfl (wN rfl) (r_pickF (by simp (disch := (try simp only [sP]); omega) only [eV]) (dn (rT ?_)))
      refine runS_nil ?_
      refine vS (vC (t := false) (by simp (disch := (try simp only [sP]); omega) only [eV]) (fun h => by cases h) ?_)
      intro _
      refine vc_exit ?_
      simp only [Exit.then, Exit.inBlock, if_true]
      refine ⟨trivial, by simp only [zP]; exact hs, by simp only [dF]; exact hd, hb, ?_⟩
      rw [show Act.eval _ (.tmp 3) = A.eval (.tmp 3) by simp (disch := (try simp only [sP]); omega) only [eV], hv, ← hys]
      exact ⟨ad, cap, rfl, hcap, hc⟩
    | cons b t =>
      obtain ⟨q, o, rfl, hcc⟩ : ∃ q o, ad = some ⟨q, o, none⟩ ∧ Cells W q o ((b :: t).map bv) := hc.resolve_left (by rintro ⟨_, _, h⟩; simp at h)
      rw [show decide ((((b :: t).length : Nat) : Int) > 0) = true by simp]
      refine rD rfl (by rw [wS (b := true) rfl rfl (by simp (disch := (try simp only [sP]); omega) only [eV])]; rfl) (rM (dn (rT ?_)))
      refine rD rfl (by rw [wS (b := true) rfl rfl (by simp (disch := (try simp only [sP]); omega) only [eV])]; rfl) (r_index (b := q) (o := o) (len := (b :: t).length) (cap := cap) (j := 0) (k := .i64) hsl (by simp (disch := (try simp only [sP]); omega) only [eV, hv]) rfl (by simp) (dn (rT ?_)))
      refine rD rfl (by rw [wS (b := true) rfl rfl (by simp (disch := (try simp only [sP]); omega) only [eV])]; rfl) (rL (b := q) (o := o + 0 * 1) (by simp (disch := (try simp only [sP]); omega) only [eV]) H.oU8 (v := .int .u8 b.toNat) (hcc 0 (bv b) (by simp)) (dn (rT ?_)))
      refine rD rfl (by rw [wS (b := true) rfl rfl (by simp (disch := (try simp only [sP]); omega) only [eV])]; rfl) (r_call' (args := #[.int .u8 b.toNat]) ?_ (c_blank_ok H b W) ?_)
      · simp only [lM]
        simp (disch := (try simp only [sP]); omega) only [eV]
      rintro v W1 ⟨rfl, rfl⟩
      refine dn (rT ?_)
      refine rD rfl (wN rfl) (r_pickT (by simp (disch := (try simp only [sP]); omega) only [eV]) (dn (rT ?_)))
      refine runS_nil ?_
      refine vS (vC (t := Lib.isSp b) (by simp (disch := (try simp only [sP]); omega) only [eV]) ?_ ?_)
      · intro hsp
        refine vK (vN ?_)
        refine vS (vc_block (vR (by simp) ?_))
        refine rM ?_
        refine r_slice (ad := some ⟨q, o, none⟩) (len := (b :: t).length) (cap := cap) 1 (b :: t).length cap hsl (by simp (disch := (try simp only [sP]); omega) only [eV, hv]) ⟨.i64, rfl⟩ ⟨rfl, rfl⟩ rfl (by simp) hcap (Nat.le_refl _) ?_
        refine rA (dn ?_)
        simp only [Exit.inBlock]
        refine vN ?_
        refine ⟨⟨t, by simp only [zP]; exact hs, by simp only [dF]; exact hd, hb, ?_, by rw [← hys, drop_go hsp]⟩, ?_⟩
        · simp (disch := (try simp only [sP]); omega) only [eV]
          exact RowC.tail hcc hcap
        · simp (disch := (try simp only [sP]); omega) only [eV, hv]
          simp [sliceN]
      · intro hsp
        refine vc_exit ?_
        simp only [Exit.then, Exit.inBlock, if_true]
        refine ⟨trivial, by simp only [zP]; exact hs, by simp only [dF]; exact hd, hb, ?_⟩
        rw [show Act.eval _ (.tmp 3) = A.eval (.tmp 3) by simp (disch := (try simp only [sP]); omega) only [eV], hv, ← hys, drop_keep hsp]
        exact ⟨_, cap, rfl, hcap, .inr ⟨q, o, rfl, hcc⟩⟩
  rintro e A W ⟨rfl, hs, hd, hb, hrow⟩
  have hxl2 : (xs.dropWhile Lib.isSp).length ≤ l.length := Nat.le_trans (List.dropWhile_sublist _).length_le hxl
  have hdone2 : ((xs.dropWhile Lib.isSp).reverse.dropWhile Lib.isSp).reverse = normalL l := hdone
  generalize xs.dropWhile Lib.isSp = zs at *
  refine vS (vc_mono _ (Q := fun e A W => e = .normal ∧ A.tmps.size = 67 ∧ A.defers = [] ∧ Below w.heap.size w W ∧ RowC W (A.eval (.tmp 3)) (zs.reverse.dropWhile Lib.isSp).reverse) ?_ ?_)
  · refine vc_block (vc_loop (fun A W => ∃ ys, ys.length ≤ 1000000 ∧ A.tmps.size = 67 ∧ A.defers = [] ∧ Below w.heap.size w W ∧ RowC W (A.eval (.tmp 3)) ys ∧ ys.reverse.dropWhile Lib.isSp = zs.reverse.dropWhile Lib.isSp) (fun A _ => sliceN (A.eval (.tmp 3))) ⟨zs, by omega, hs, hd, hb, hrow, rfl⟩ ?_)
    rintro A W ⟨ys, hyl, hs, hd, hb, ⟨ad, cap, hv, hcap, hc⟩, hys⟩
    refine vS (vS (vc_runS ?_))
    refine rD rfl (wN rfl) (rM (dn (rT ?_)))
    refine rD rfl (wN rfl) (r_len (ad := ad) (n := ys.length) (c := cap) hsl (by simp (disch := (try simp only [sP]); omega) only [eV, hv]) (dn (rT ?_)))
    refine rD rfl (wN rfl) (r_gtr (k := .i64) (m := (ys.length : Int)) (n := 0) (by simp (disch := (try simp only [sP]); omega) only [eV]) rfl (dn (rT ?_)))
    refine rD rfl (wN rfl) (rM (dn (rT ?_)))
    rcases List.eq_nil_or_concat ys with rfl | ⟨t, b, hyb⟩
    · rw [show decide (((([] : List UInt8).length : Nat) : Int) > 0) = false by rfl]
      refine runS_no rfl (by rw [wS (b := false) rfl rfl (by simp (disch := (try simp only [sP]); omega) only [eV])]; rfl) ?_
      refine runS_no rfl (by rw [wS (b := false) rfl rfl (by simp (disch := (try simp only [sP]); omega) only [eV])]; rfl) ?_
      refine runS_no rfl (by rw [wS (b := false) rfl rfl (by simp (disch := (try simp only [sP]); omega) only [eV])]; rfl) ?_
      refine runS_no rfl (by rw [wS (b := false) rfl rfl (by simp (disch := (try simp only [sP]); omega) only [eV])]; rfl) ?_
      refine runS_no rfl (by rw [wS (b := false) rfl rfl (by simp (disch := (try simp only [sP]); omega) only [eV])]; rfl) ?_
      refine runS_no rfl (by rw [wS (b := false) rfl rfl (by simp (disch := (try simp only [sP]); omega) only [eV])]; rfl) ?_
      refine runS_no rfl (by rw [wS (b := false) rfl rfl (by simp (disch := (try simp only [sP]); omega) only [eV])]; rfl) ?_
      refine rD rfl (wN rfl) (r_pickF (by simp (disch := (try simp only [sP]); omega) only [eV]) (dn (rT ?_)))
      refine runS_nil ?_
      refine vS (vC (t := false) (by simp (disch := (try simp only [sP]); omega) only [eV]) (fun h => by cases h) ?_)
      intro _
      refine vc_exit ?_
      simp only [Exit.then, Exit.inBlock, if_true]
      refine ⟨trivial, by simp only [zP]; exact hs, by simp only [dF]; exact hd, hb, ?_⟩
      rw [show Act.eval _ (.tmp 3) = A.eval (.tmp 3) by simp (disch := (try simp only [sP]); omega) only [eV], hv, ← hys]
      exact ⟨ad, cap, rfl, hcap, hc⟩
    · rw [List.concat_eq_append] at hyb
      subst hyb
      obtain ⟨q, o, rfl, hcc⟩ : ∃ q o, ad = some ⟨q, o, none⟩ ∧ Cells W q o ((t ++ [b]).map bv) := hc.resolve_left (by rintro ⟨_, _, h⟩; simp at h)
      have hlen : (t ++ [b]).length = t.length + 1 := by simp
      rw [hlen] at hyl hcap hv
      rw [hlen]
      rw [show decide (((t.length + 1 : Nat) : Int) > 0) = true by simp]
      refine rD rfl (by rw [wS (b := true) rfl rfl (by simp (disch := (try simp only [sP]); omega) only [eV])]; rfl) (rM (dn (rT ?_)))
      refine rD rfl (by rw [wS (b := true) rfl rfl (by simp (disch := (try simp only [sP]); omega) only [eV])]; rfl) (rM (dn (rT ?_)))
      refine rD rfl (by rw [wS (b := true) rfl rfl (by simp (disch := (try simp only [sP]); omega) only [eV])]; rfl) (r_len (ad := some ⟨q, o, none⟩) (n := t.length + 1) (c := cap) hsl (by simp (disch := (try simp only [sP]); omega) only [eV, hv]) (dn (rT ?_)))
      refine rD rfl (by rw [wS (b := true) rfl rfl (by simp (disch := (try simp only [sP]); omega) only [eV])]; rfl) (r_sub (k := .i64) (m := ((t.length + 1 : Nat) : Int)) (n := 1) (by simp (disch := (try simp only [sP]); omega) only [eV]) rfl (dn (rT ?_)))
      rw [show IntKind.i64.wrap (((t.length + 1 : Nat) : Int) - 1) = (t.length : Int) by rw [wrap_i64 (by omega) (by omega)]; omega]
      refine rD rfl (by rw [wS (b := true) rfl rfl (by simp (disch := (try simp only [sP]); omega) only [eV])]; rfl) (r_index (b := q) (o := o) (len := t.length + 1) (cap := cap) (j := t.length) (k := .i64) hsl (by simp (disch := (try simp only [sP]); omega) only [eV, hv]) (by simp (disch := (try simp only [sP]); omega) only [eV]) (by omega) (dn (rT ?_)))
      refine rD rfl (by rw [wS (b := true) rfl rfl (by simp (disch := (try simp only [sP]); omega) only [eV])]; rfl) (rL (b := q) (o := o + t.length * 1) (by simp (disch := (try simp only [sP]); omega) only [eV]) H.oU8 (v := .int .u8 b.toNat) (by rw [Nat.mul_one]; exact hcc t.length (bv b) (by simp)) (dn (rT ?_)))
      refine rD rfl (by rw [wS (b := true) rfl rfl (by simp (disch := (try simp only [sP]); omega) only [eV])]; rfl) (r_call' (args := #[.int .u8 b.toNat]) ?_ (c_blank_ok H b W) ?_)
      · simp only [lM]
        simp (disch := (try simp only [sP]); omega) only [eV]
      rintro v W1 ⟨rfl, rfl⟩
      refine dn (rT ?_)
      refine rD rfl (wN rfl) (r_pickT (by simp (disch := (try simp only [sP]); omega) only [eV]) (dn (rT ?_)))
      refine runS_nil ?_
      rw [List.reverse_append] at hys
      refine vS (vC (t := Lib.isSp b) (by simp (disch := (try simp only [sP]); omega) only [eV]) ?_ ?_)
      · intro hsp
        refine vK (vN ?_)
        refine vS (vc_block (vR (by simp) ?_))
        refine rM (rM ?_)
        refine r_len (ad := some ⟨q, o, none⟩) (n := t.length + 1) (c := cap) hsl (by simp (disch := (try simp only [sP]); omega) only [eV, hv]) ?_
        refine r_sub (k := .i64) (m := ((t.length + 1 : Nat) : Int)) (n := 1) (by simp (disch := (try simp only [sP]); omega) only [eV]) rfl ?_
        rw [show IntKind.i64.wrap (((t.length + 1 : Nat) : Int) - 1) = (t.length : Int) by rw [wrap_i64 (by omega) (by omega)]; omega]
        refine r_slice (ad := some ⟨q, o, none⟩) (len := t.length + 1) (cap := cap) 0 t.length cap hsl (by simp (disch := (try simp only [sP]); omega) only [eV, hv]) rfl ⟨.i64, (by simp (disch := (try simp only [sP]); omega) only [eV])⟩ rfl (by omega) (by omega) (Nat.le_refl _) ?_
        refine rA (dn ?_)
        simp only [Exit.inBlock]
        refine vN ?_
        refine ⟨⟨t, by omega, by simp only [zP]; exact hs, by simp only [dF]; exact hd, hb, ?_, ?_⟩, ?_⟩
        · simp (disch := (try simp only [sP]); omega) only [eV]
          exact RowC.init hcc hcap
        · rw [← hys]
          exact (drop_go hsp).symm
        · simp (disch := (try simp only [sP]); omega) only [eV, hv]
          simp [sliceN]
      · intro hsp
        refine vc_exit ?_
        simp only [Exit.then, Exit.inBlock, if_true]
        refine ⟨trivial, by simp only [zP]; exact hs, by simp only [dF]; exact hd, hb, ?_⟩
        have hk : ([b].reverse ++ t.reverse).dropWhile Lib.isSp = b :: t.reverse := drop_keep hsp
        rw [show Act.eval _ (.tmp 3) = A.eval (.tmp 3) by simp (disch := (try simp only [sP]); omega) only [eV], hv, ← hys, hk]
        rw [show (b :: t.reverse).reverse = t ++ [b] by simp]
        exact ⟨_, cap, by rw [hlen], by omega, .inr ⟨q, o, rfl, hcc⟩⟩
  rintro e A W ⟨rfl, hs, hd, hb, hrow⟩
  rw [hdone2] at hrow
  refine vX (rM ?_)
  refine r_convRow (l := normalL l) H.row H.u8 H.strB (v := A.eval (.tmp 3)) (by simp (disch := (try simp only [sP]); omega) only [eV]) hrow.row ?_
  refine rA (dn (vS (vT ?_)))
  exact ⟨by simp only [dF]; exact hd, _, rO (by simp (disch := (try simp only [sP]); omega) only [eV]), rfl, hb⟩
end
end Go.Km
namespace Go.Km
open Go Go.RowKit
attribute [local irreducible] vc rO_ runG runS runD
def unknownL : List UInt8 := [117, 110, 107, 110, 111, 119, 110]
def plainL (l : List UInt8) : Bool := (decide (l.length ≤ 200) && !decide (normalL l = unknownL)) && l.all fun b => decide (b.toNat < 128)
structure YT2 (P : Program) (E : Env) (C : SC) : Prop extends YT P E C where
 int : intT P E.tI = some .i64
 tplain : Text P C.Qplain 1 22 #[.tmp 2] (c_plain E C)
structure ShelfY (P : Program) (C : SC) (Tab : World → Prop) : Prop where
 keep : ∀ W W' : World, Tab W → Below W.heap.size W W' → Tab W'
 trim : ∀ (l : List UInt8) (W : World), l.length ≤ 1000000 → (∀ b ∈ l, b.toNat < 128) → Tab W → CallsV P C.TRIMSP #[.string ⟨l.toArray⟩] W fun v w' => v = .string ⟨(Lib.trimSpace l).toArray⟩ ∧ Below W.heap.size W w'
 lower : ∀ (l : List UInt8) (W : World), l.length ≤ 1000000 → (∀ b ∈ l, b.toNat < 128) → CallsV P C.TOLOW #[.string ⟨l.toArray⟩] W fun v w' => v = .string ⟨(Lib.toLowerA l).toArray⟩ ∧ Below W.heap.size W w'
section
variable {P : Program} {E : Env} {C : SC} {Tab : World → Prop}
theorem c_plain_ok (H : YT2 P E C) (l : List UInt8) (w : World) : CallsV P C.Qplain #[.string ⟨l.toArray⟩] w fun v w' => v = .bool (plainL l) ∧ Below w.heap.size w w' := by
 refine CallsV.enter H.tplain (by simp) ?_
 intro a hsz hdf harg
 have e0 := harg 0 (.string ⟨l.toArray⟩) (by simp)
 unfold c_plain
 refine vX (rA (dn ?_))
 refine vS (vc_mono _ (Q := fun e A W => (e = .ret ∧ A.defers = [] ∧ A.eval (.tmp 2) = .bool false ∧ Below w.heap.size w W ∧ plainL l = false) ∨ (e = .normal ∧ A.tmps.size = 22 ∧ A.defers = [] ∧ A.eval (.tmp 0) = .string ⟨l.toArray⟩ ∧ Below w.heap.size w W ∧ l.length ≤ 200 ∧ normalL l ≠ unknownL)) ?_ ?_)
 ·refine vS (vc_runS ?_)
  refine rD rfl (wN rfl) (rM (dn (rT ?_)))
  refine rD rfl (wN rfl) (r_lenStr (s := ⟨l.toArray⟩) H.str (by simp (disch := (try simp only [sP]); omega) only [eV, e0]) (dn (rT ?_)))
  rw [size_ba]
  refine rD rfl (wN rfl) (r_gtr (k := .i64) (m := (l.length : Int)) (n := 200) (by simp (disch := (try simp only [sP]); omega) only [eV]) rfl (dn (rT ?_)))
  refine rD rfl (wN rfl) (rM (dn (rT ?_)))
  by_cases h200 : (l.length : Int) > 200
  ·rw [show decide ((l.length : Int) > 200) = true by simpa using h200]
   refine runS_no rfl (by rw [wS (b := true) rfl rfl (by simp (disch := (try simp only [sP]); omega) only [eV])]; rfl) ?_
   refine runS_no rfl (by rw [wS (b := true) rfl rfl (by simp (disch := (try simp only [sP]); omega) only [eV])]; rfl) ?_
   refine runS_no rfl (by rw [wS (b := true) rfl rfl (by simp (disch := (try simp only [sP]); omega) only [eV])]; rfl) ?_
   refine rD rfl (wN rfl) (r_pickT (by simp (disch := (try simp only [sP]); omega) only [eV]) (dn (rT ?_)))
   refine runS_nil ?_
   refine vS (vC (t := true) (by simp (disch := (try simp only [sP]); omega) only [eV]) ?_ (fun h => by cases h))
   intro _
   refine vX (rA (dn (vS (vT ?_))))
   refine .inl ⟨rfl, by simp only [dF]; exact hdf, (by simp (disch := (try simp only [sP]); omega) only [eV]), Below.refl _ _, ?_⟩
   unfold plainL
   rw [show decide (l.length ≤ 200) = false by simp; omega]
   rfl
  ·rw [show decide ((l.length : Int) > 200) = false by simpa using h200]
   refine rD rfl (by rw [wS (b := false) rfl rfl (by simp (disch := (try simp only [sP]); omega) only [eV])]; rfl) (rM (dn (rT ?_)))
   refine rD rfl (by rw [wS (b := false) rfl rfl (by simp (disch := (try simp only [sP]); omega) only [eV])]; rfl) (r_call' (args := #[.string ⟨l.toArray⟩]) ?_ (c_normal_ok H.toYT l (by omega) w) ?_)
   ·simp only [lM]
    simp (disch := (try simp only [sP]); omega) only [eV, e0]
   rintro v W1 ⟨rfl, hb1⟩
   refine dn (rT ?_)
   refine rD rfl (by rw [wS (b := false) rfl rfl (by simp (disch := (try simp only [sP]); omega) only [eV])]; rfl) (r_eqStr (l := normalL l) (m := unknownL) (by simp (disch := (try simp only [sP]); omega) only [eV]) rfl (dn (rT ?_)))
   refine rD rfl (wN rfl) (r_pickF (by simp (disch := (try simp only [sP]); omega) only [eV]) (dn (rT ?_)))
   refine runS_nil ?_
   refine vS (vC (t := decide (normalL l = unknownL)) (by simp (disch := (try simp only [sP]); omega) only [eV]) ?_ ?_)
   ·intro h
    refine vX (rA (dn (vS (vT ?_))))
    refine .inl ⟨rfl, by simp only [dF]; exact hdf, (by simp (disch := (try simp only [sP]); omega) only [eV]), hb1, ?_⟩
    unfold plainL
    rw [h]
    simp
   ·intro h
    refine vK (vN ?_)
    exact .inr ⟨rfl, by simp only [zP]; exact hsz, by simp only [dF]; exact hdf, (by simp (disch := (try simp only [sP]); omega) only [eV, e0]), hb1, by omega, by simpa using h⟩
 rintro e A W (⟨rfl, hd, h2, hb, hp⟩ | ⟨rfl, hs, hd, h0, hb, h200, hun⟩)
 ·exact ⟨hd, .bool false, rO h2, by rw [hp], hb⟩
 have hpl : plainL l = l.all fun b => decide (b.toNat < 128) := by
  unfold plainL
  rw [show decide (l.length ≤ 200) = true by simpa using h200, show decide (normalL l = unknownL) = false by simpa using hun]
  simp
 refine vS (vX (rA (dn ?_)))
 refine vS (vc_block (vc_loop (fun A W => ∃ i, i ≤ l.length ∧ A.tmps.size = 22 ∧ A.defers = [] ∧ A.eval (.tmp 0) = .string ⟨l.toArray⟩ ∧ A.eval (.tmp 3) = .int .i64 (i : Nat) ∧ Below w.heap.size w W ∧ ∀ b ∈ l.take i, b.toNat < 128) (fun A _ => l.length - intN (A.eval (.tmp 3))) ?_ ?_))
 ·exact ⟨0, by omega, by simp only [zP]; exact hs, by simp only [dF]; exact hd, (by simp (disch := (try simp only [sP]); omega) only [eV, h0]), by simp (disch := (try simp only [sP]); omega) only [eV]; rfl, hb, by simp⟩
 rintro A W ⟨i, hil, hs, hd, h0, h3, hb, hall⟩
 refine vS (vX (rM (rM ?_)))
 refine r_lenStr (s := ⟨l.toArray⟩) H.str (by simp (disch := (try simp only [sP]); omega) only [eV, h0]) ?_
 rw [size_ba]
 refine r_lss (k := .i64) (m := (i : Int)) (n := (l.length : Int)) (by simp (disch := (try simp only [sP]); omega) only [eV, h3]) (by simp (disch := (try simp only [sP]); omega) only [eV]) ?_
 refine dn ?_
 by_cases hge : l.length ≤ i
 ·refine vS (vC (t := false) (by simp (disch := (try simp only [sP]); omega) only [eV]; simp only [Value.bool.injEq, decide_eq_false_iff_not]; omega) (fun h => by cases h) ?_)
  intro _
  refine vc_exit ?_
  simp only [Exit.then, Exit.inBlock, if_true]
  refine vN (vX (rA (dn (vS (vT ?_)))))
  refine ⟨by simp only [dF]; exact hd, .bool true, rO (by simp (disch := (try simp only [sP]); omega) only [eV]), ?_, hb⟩
  rw [List.take_of_length_le hge] at hall
  rw [hpl]
  congr 1
  symm
  exact List.all_eq_true.2 fun b hbm => by simpa using hall b hbm
 have hlt : i < l.length := by omega
 refine vS (vC (t := true) (by simp (disch := (try simp only [sP]); omega) only [eV]; simp only [Value.bool.injEq, decide_eq_true_eq]; omega) ?_ (fun h => by cases h))
 intro _
 refine vK (vN ?_)
 have hbi : l[i]? = some l[i] := List.getElem?_eq_getElem hlt
 have hmem : l[i] ∈ l := List.getElem_mem hlt
 generalize l[i] = b at *
 have hb8 := b.toNat_lt
 refine vS (vc_block (vX ?_))
 refine rM (rM ?_)
 refine r_indexStr (s := ⟨l.toArray⟩) (j := i) (k := .i64) H.str (by simp (disch := (try simp only [sP]); omega) only [eV, h0]) (by simp (disch := (try simp only [sP]); omega) only [eV, h3]) (by rw [ba_get]; exact hbi) ?_
 refine r_gtr (k := .u8) (m := (b.toNat : Int)) (n := 127) (by simp (disch := (try simp only [sP]); omega) only [eV]) rfl ?_
 refine dn ?_
 refine vS (vC (t := decide ((b.toNat : Int) > 127)) (by simp (disch := (try simp only [sP]); omega) only [eV]) ?_ ?_)
 ·intro h
  have h127 : (b.toNat : Int) > 127 := by simpa using h
  refine vX (rA (dn (vS (vT ?_))))
  refine ⟨by simp only [dF]; exact hd, .bool false, rO (by simp (disch := (try simp only [sP]); omega) only [eV]), ?_, hb⟩
  rw [hpl]
  congr 1
  symm
  refine List.all_eq_false.2 ⟨b, hmem, ?_⟩
  simp
  omega
 ·intro h
  have h127 : ¬ (b.toNat : Int) > 127 := by simpa using h
  refine vK (vN ?_)
  simp only [Exit.inBlock]
  refine vX (rM ?_)
  refine r_add (k := .i64) (m := (i : Int)) (n := 1) (by simp (disch := (try simp only [sP]); omega) only [eV, h3]) (by simp (disch := (try simp only [sP]); omega) only [eV]) ?_
  rw [wrap_i64 (by omega) (by omega)]
  refine rA (dn (vN ?_))
  refine ⟨⟨i + 1, by omega, by simp only [zP]; exact hs, by simp only [dF]; exact hd, (by simp (disch := (try simp only [sP]); omega) only [eV, h0]), by simp (disch := (try simp only [sP]); omega) only [eV]; rfl, hb, ?_⟩, ?_⟩
  ·intro c hc
   rw [List.take_add_one, hbi] at hc
   rcases List.mem_append.1 hc with hc | hc
   ·exact hall c hc
   ·simp only [Option.toList_some, List.mem_singleton] at hc
    subst hc
    omega
  ·simp (disch := (try simp only [sP]); omega) only [eV, h3]
   simp only [intN]
   omega
theorem c_strnorm_ok (H : YT2 P E C) (X : ShelfY P C Tab) (l : List UInt8) (hl : l.length ≤ 1000000) (ha : ∀ b ∈ l, b.toNat < 128) (w : World) (hT : Tab w) : CallsV P C.Qstrnorm #[.string ⟨l.toArray⟩] w fun v w' => v = .string ⟨(normalL l).toArray⟩ ∧ Below w.heap.size w w' := by
 refine CallsV.enter H.tstrnorm (by simp) ?_
 intro a hsz hdf harg
 have e0 := harg 0 (.string ⟨l.toArray⟩) (by simp)
 have hlen : ∀ (l : List UInt8) (b : UInt8), (l.filter (· != b)).length ≤ l.length := fun l b => List.length_filter_le _ _
 have hmem : ∀ (l : List UInt8) (b : UInt8), (∀ c ∈ l, c.toNat < 128) → ∀ c ∈ l.filter (· != b), c.toNat < 128 := fun l b h c hc => h c (List.mem_filter.1 hc).1
 have n1 := hlen l 46
 have n2 := hlen (l.filter (· != 46)) 95
 have n3 := hlen ((l.filter (· != 46)).filter (· != 95)) 45
 have m1 := hmem l 46 ha
 have m2 := hmem _ 95 m1
 have m3 := hmem _ 45 m2
 unfold c_strnorm
 refine vX (rA (dn (vX (rM ?_))))
 refine r_call' (args := #[.string ⟨l.toArray⟩, .string ⟨[46].toArray⟩, .string ⟨#[]⟩]) ?_ (c_replace_ok H.toYT H.int l 46 hl w) ?_
 ·simp only [lM]
  simp (disch := (try simp only [sP]); omega) only [eV, e0]
 rintro v W1 ⟨rfl, hb1⟩
 refine rA (dn (vX (rM ?_)))
 refine r_call' (args := #[.string ⟨(l.filter (· != 46)).toArray⟩, .string ⟨[95].toArray⟩, .string ⟨#[]⟩]) ?_ (c_replace_ok H.toYT H.int (l.filter (· != 46)) 95 (by omega) W1) ?_
 ·simp only [lM]
  simp (disch := (try simp only [sP]); omega) only [eV, e0]
 rintro v W2 ⟨rfl, hb2⟩
 refine rA (dn (vX (rM ?_)))
 refine r_call' (args := #[.string ⟨((l.filter (· != 46)).filter (· != 95)).toArray⟩, .string ⟨[45].toArray⟩, .string ⟨#[]⟩]) ?_ (c_replace_ok H.toYT H.int ((l.filter (· != 46)).filter (· != 95)) 45 (by omega) W2) ?_
 ·simp only [lM]
  simp (disch := (try simp only [sP]); omega) only [eV, e0]
 rintro v W3 ⟨rfl, hb3⟩
 refine rA (dn ?_)
 have hbA : Below w.heap.size w W2 := hb1.trans (hb2.mono hb1.size)
 have hbB : Below w.heap.size w W3 := hbA.trans (hb3.mono hbA.size)
 have hx : strnormL l = Lib.toLowerA (Lib.trimSpace (((l.filter (· != 46)).filter (· != 95)).filter (· != 45))) := rfl
 generalize ((l.filter (· != 46)).filter (· != 95)).filter (· != 45) = xs at *
 refine vX (rM ?_)
 refine r_call' (args := #[.string ⟨xs.toArray⟩]) ?_ (X.trim xs W3 (by omega) m3 (X.keep w W3 hT hbB)) ?_
 ·simp only [lM]
  simp (disch := (try simp only [sP]); omega) only [eV]
 rintro v W4 ⟨rfl, hb4⟩
 refine rA (dn ?_)
 have hsub : (Lib.trimSpace xs).Sublist xs := by
  unfold Lib.trimSpace
  refine List.Sublist.trans ?_ (List.dropWhile_sublist Lib.isSp)
  have := (List.dropWhile_sublist (l := (xs.dropWhile Lib.isSp).reverse) Lib.isSp).reverse
  rwa [List.reverse_reverse] at this
 refine vX (rM ?_)
 refine r_call' (args := #[.string ⟨(Lib.trimSpace xs).toArray⟩]) ?_ (X.lower (Lib.trimSpace xs) W4 (by have := hsub.length_le; omega) (fun b hb => m3 b (hsub.subset hb))) ?_
 ·simp only [lM]
  simp (disch := (try simp only [sP]); omega) only [eV]
 rintro v W5 ⟨rfl, hb5⟩
 refine rA (dn (vX (rM (rA (dn (vS (vT ?_)))))))
 have hbC : Below w.heap.size w W4 := hbB.trans (hb4.mono hbB.size)
 refine ⟨by simp only [dF]; exact hdf, .string ⟨(Lib.toLowerA (Lib.trimSpace xs)).toArray⟩, rO (by simp (disch := (try simp only [sP]); omega) only [eV]), ?_, hbC.trans (hb5.mono hbC.size)⟩
 rw [← strnorm_normal, hx]
end
end Go.Km
namespace Go.Km
open Go Go.RowKit
structure KC where
 t : TypeId := 0
 tup : TypeId := 0
 tp : TypeId := 0
 k : IntKind := .i8
 nm : List (Int × List UInt8) := []
 keys : List (Int × List UInt8) := []
 msg : List UInt8 := []
 Qnames : FuncId := 0
 Qparse : FuncId := 0
 Qunm : FuncId := 0
 QimplParse : FuncId := 0
 QimplOfText : FuncId := 0
def nmBuild (C : SC) (p : (Int × List UInt8) × Nat) : Oper := ⟨some p.2, .build C.tName #[(0, (.const (.int .i64 p.1.1))), (1, (.const (.string ⟨p.1.2.toArray⟩)))], C.tName, "", #[], none⟩
def c_namesG (E : Env) (C : SC) (K : KC) : Code :=
 sq [rg [(oQ 0 (.assign (.const (.slice none 0 0))) C.tNames)],
  rg ((K.nm.zipIdx 1).map (nmBuild C) ++ [(oQ (K.nm.length + 1) (.buildSlice C.tNames K.nm.length ((List.range K.nm.length).map fun i => (i, Operand.tmp (i + 1))).toArray) C.tNames),
   (oQ 0 (.assign (.tmp (K.nm.length + 1))) C.tNames)]),
  .ret]
attribute [local irreducible] vc rO_ runG runS runD
def nameV (p : Int × List UInt8) : List Value := [.int .i64 p.1, .string ⟨p.2.toArray⟩]
def nameA (p : Int × List UInt8) : Value := .agg (nameV p).toArray
def NamesAt (B : Nat) (w : World) (v : Value) (nm : List (Int × List UInt8)) : Prop := ∃ q, B ≤ q ∧ q < w.heap.size ∧ v = .slice (some ⟨q, 0, none⟩) nm.length nm.length ∧ Cells w q 0 (nm.flatMap nameV)
theorem NamesAt.below {B : Nat} {w w' : World} {v : Value} {nm} (h : NamesAt B w v nm) (hb : Below w.heap.size w w') : NamesAt B w' v nm := by
 obtain ⟨q, h1, h2, h3, h4⟩ := h
 exact ⟨q, h1, Nat.lt_of_lt_of_le h2 hb.size, h3, h4.below hb h2⟩
theorem names_at {w : World} {q : Nat} : ∀ {nm : List (Int × List UInt8)} {o : Nat}, Cells w q o (nm.flatMap nameV) → ∀ {i : Nat} {p}, nm[i]? = some p → Cells w q (o + i * 2) (nameV p)
 | [], o, h, i, p, hi => by simp at hi
 | p0 :: nm, o, h, 0, p, hi => by
  simp only [List.getElem?_cons_zero, Option.some.injEq] at hi
  subst hi
  have := h.tk (n := 2)
  simpa [nameV] using this
 | p0 :: nm, o, h, i + 1, p, hi => by
  have h2 := h.dp (n := 2)
  have : Cells w q (o + 2) (nm.flatMap nameV) := by simpa [nameV] using h2
  have := names_at this (i := i) (p := p) (by simpa using hi)
  rw [show o + (i + 1) * 2 = o + 2 + i * 2 by omega]
  exact this
def lookN (f : Int × List UInt8 → Bool) (nm : List (Int × List UInt8)) : Option Int := (nm.find? f).map (·.1)
structure YT3 (P : Program) (E : Env) (C : SC) : Prop extends YT2 P E C where
 rowN : rowB P C.tNames C.tName 2 = true
 layN : lays P C.tName = some ([(0, 1), (1, 1)], #[.int .i64 0, .string ⟨#[]⟩])
 agN : aggT P C.tName = some 2
 zN : zeroT P C.tName = some (.agg #[.int .i64 0, .string ⟨#[]⟩])
 f0 : fieldOff P C.tName 0 = some 0
 f1 : fieldOff P C.tName 1 = some 1
 bool : P.underlying E.tO = some .bool
 oInt : oneT P E.tI = true
 oStr : oneT P E.tStr = true
 tspec : Text P C.QspecParsed 2 23 #[.tmp 4, .tmp 5] (c_specParsed E C)
 tparsed : Text P C.Qparsed 4 29 #[.tmp 8] (c_parsed E C)
section
variable {P : Program} {a : Act} {w : World} {r : List Oper} {Q : Exit → Act → World → Prop}
theorem r_eqBool {d T x y yt ty p af g} {b c : Bool} (hT : P.underlying T = some .bool) (hx : a.eval x = .bool b) (hy : a.eval y = .bool c) (h : rO_ P Q r (a.put (some d) (.bool (b == c))) w) :
  rO_ P Q (⟨some d, .binOp .eql T x y yt, ty, p, af, g⟩ :: r) a w := by
 refine st ?_
 have hb : (binOp .eql T (.bool b) (.bool c)).run P w = .ok (.bool (b == c)) w := by
  simp only [binOp]
  have h0 : ∀ k : Nat, (Op.equalIn (k + 1) T (.bool b) (.bool c)).run P w = .ok (b == c) w := fun k => by simp [Op.equalIn, run_underlying hT]
  simp [Op.equal, Op.maxDepth, h0 9999]
 have hg : (eqGuard .eql T x y (.bool b) (.bool c)) = pure () := rfl
 simp only [Oper.wp, execOp, hx, hy, hg, hb, Sem.run_bind, Sem.run_pure, Result.andThen_ok, Oper.upon_value]
 exact h
theorem r_builds {C : SC} {z : Array Value} (hl : lays P C.tName = some ([(0, 1), (1, 1)], z)) (hz : z.size = 2) : ∀ (nm : List (Int × List UInt8)) (k : Nat) (a : Act), k + nm.length ≤ a.tmps.size → 
  (∀ a', a'.tmps.size = a.tmps.size → a'.defers = a.defers → (∀ t, t < k → a'.eval (.tmp t) = a.eval (.tmp t)) → (∀ i p, nm[i]? = some p → a'.eval (.tmp (k + i)) = nameA p) → rO_ P Q r a' w) → rO_ P Q ((nm.zipIdx k).map (nmBuild C) ++ r) a w
 | [], k, a, hs, h => h a rfl rfl (fun _ _ => rfl) (fun i p hi => by simp at hi)
 | p :: nm, k, a, hs, h => by
  simp only [List.length_cons] at hs
  rw [List.zipIdx_cons, List.map_cons, List.cons_append]
  refine r_build (cells := (nameV p).toArray) hl ?_ ?_
  ·obtain ⟨z0, z1, rfl⟩ : ∃ z0 z1, z = #[z0, z1] := ⟨z[0], z[1], by
    apply Array.ext
    ·simp [hz]
    ·intro i h1 h2
     simp only [List.size_toArray, List.length_cons, List.length_nil] at h2
     match i, h2 with
     | 0, _ => rfl
     | 1, _ => rfl⟩
   simp [Instr.fill, nameV, Value.cells, eval_const]
  refine r_builds hl hz nm (k + 1) _ (by simp only [zP]; omega) ?_
  intro a' h1 h2 h3 h4
  refine h a' (by rw [h1, zP]) (by rw [h2, dF]) (fun t ht => by rw [h3 t (by omega), eval_put_ne _ _ _ _ (by omega)]) ?_
  intro i q hi
  cases i with
  | zero =>
   simp only [List.getElem?_cons_zero, Option.some.injEq] at hi
   subst hi
   rw [Nat.add_zero, h3 k (by omega), eval_put_same _ _ _ (by omega)]
   rfl
  | succ i =>
   rw [show k + (i + 1) = k + 1 + i by omega]
   exact h4 i q (by simpa using hi)
end
section
variable {P : Program} {E : Env} {C : SC} {K : KC} {Tab : World → Prop}
theorem c_names_ok (H : YT3 P E C) (hn0 : 0 < K.nm.length) (hn1 : K.nm.length ≤ 1000) {nt : Nat} (hnt : K.nm.length + 2 ≤ nt) (ht : Text P K.Qnames 0 nt #[.tmp 0] (c_namesG E C K)) (w : World) :
  CallsV P K.Qnames #[] w fun v w' => NamesAt w.heap.size w' v K.nm ∧ Below w.heap.size w w' := by
 refine CallsV.enter ht (by simp) ?_
 intro a hsz hdf harg
 unfold c_namesG
 refine vX (rA (dn ?_))
 refine vS (vR ?_ ?_)
 ·intro o ho
  simp only [List.mem_append, List.mem_map, List.mem_cons, List.not_mem_nil, or_false] at ho
  rcases ho with ⟨x, _, rfl⟩ | rfl | rfl <;> rfl
 refine r_builds H.layN rfl K.nm 1 _ (by simp only [zP]; omega) ?_
 intro a' h1 h2 h3 h4
 rw [zP] at h1
 have hps : ((((List.range K.nm.length).map fun i => (i, Operand.tmp (i + 1))).toArray).map fun (x : Nat × Operand) => (x.1, a'.eval x.2)).toList = ((K.nm.map nameA).zipIdx 0).map fun x => (x.2, x.1) := by
  apply List.ext_getElem
  ·simp
  ·intro i g1 g2
   have hi : i < K.nm.length := by simpa using g1
   have := h4 i K.nm[i] (List.getElem?_eq_getElem hi)
   rw [show 1 + i = i + 1 by omega] at this
   simp [this]
 refine r_buildSlice (s := 2) (vs := K.nm.map nameA) H.rowN hps (by simp) (by intro v hv; obtain ⟨p, _, rfl⟩ := List.mem_map.1 hv; rfl) (by omega) hn0 ?_
 refine rA (dn (vS (vT ?_)))
 have hcs : ((K.nm.map nameA).flatMap fun v => v.cells.toList) = K.nm.flatMap nameV := by
  rw [List.flatMap_map]
  congr 1
 refine ⟨by simp only [dF]; rw [h2]; simp only [dF]; exact hdf, .slice (some ⟨w.heap.size, 0, none⟩) K.nm.length K.nm.length, rO ?_, ?_, ?_⟩
 ·rw [eval_put_same _ _ _ (by simp only [zP]; omega), eval_put_same _ _ _ (by omega)]
 ·refine ⟨w.heap.size, Nat.le_refl _, by simp, rfl, ?_⟩
  rw [hcs]
  intro i u hu
  rw [Nat.zero_add]
  exact cells_new w _ _ (by simpa using hu)
 ·exact (Below.refl _ w).alloc (Nat.le_refl _) _
theorem c_specParsed_ok (H : YT3 P E C) {nm : List (Int × List UInt8)} (hnm : ∀ p ∈ nm, p.2.length ≤ 1000) (hn1 : nm.length ≤ 1000) {B : Nat} {nv : Value} {w : World} (hN : NamesAt B w nv nm) (l : List UInt8) (hl : l.length ≤ 1000000) :
  CallsV P C.QspecParsed #[nv, .string ⟨l.toArray⟩] w fun v w' => v = .tuple #[.int .i64 ((lookN (fun p => decide (normalL p.2 = normalL l)) nm).getD 0), .bool (lookN (fun p => decide (normalL p.2 = normalL l)) nm).isSome] ∧ Below w.heap.size w w' := by
 refine CallsV.enter H.tspec (by simp) ?_
 intro a hsz hdf harg
 have e0 := harg 0 nv (by simp)
 have e1 := harg 1 (.string ⟨l.toArray⟩) (by simp)
 have hslN := rB H.rowN
 obtain ⟨q, hBq, hqs, rfl, hcN⟩ := hN
 unfold c_specParsed
 refine vX (rA (rA (dn (vS (vX (rM ?_))))))
 refine r_len (ad := some ⟨q, 0, none⟩) (n := nm.length) (c := nm.length) hslN (by simp (disch := (try simp only [sP]); omega) only [eV, e0]) ?_
 refine rM (dn ?_)
 refine vS (vc_block (vc_loop (fun A W => ∃ i, i ≤ nm.length ∧ A.tmps.size = 23 ∧ A.defers = [] ∧ A.eval (.tmp 1) = .string ⟨l.toArray⟩ ∧ A.eval (.tmp 8) = .slice (some ⟨q, 0, none⟩) nm.length nm.length ∧ A.eval (.tmp 9) = .int .i64 (nm.length : Nat) ∧ A.eval (.tmp 10) = .int .i64 (i : Nat) ∧ Below w.heap.size w W ∧ ∀ p ∈ nm.take i, decide (normalL p.2 = normalL l) = false) (fun A _ => nm.length - intN (A.eval (.tmp 10))) ?_ ?_))
 ·exact ⟨0, by omega, by simp only [zP]; exact hsz, by simp only [dF]; exact hdf, (by simp (disch := (try simp only [sP]); omega) only [eV, e1]), (by simp (disch := (try simp only [sP]); omega) only [eV, e0]), (by simp (disch := (try simp only [sP]); omega) only [eV]), by simp (disch := (try simp only [sP]); omega) only [eV]; rfl, Below.refl _ _, by simp⟩
 rintro A W ⟨i, hil, hs, hd, h1, h8, h9, h10, hb, hno⟩
 refine vX ?_
 refine r_lss (k := .i64) (m := (i : Int)) (n := (nm.length : Int)) (by simp (disch := (try simp only [sP]); omega) only [eV, h10]) (by simp (disch := (try simp only [sP]); omega) only [eV, h9]) ?_
 refine dn ?_
 by_cases hge : nm.length ≤ i
 ·refine vS (vC (t := false) (by simp (disch := (try simp only [sP]); omega) only [eV]; simp only [Value.bool.injEq, decide_eq_false_iff_not]; omega) (fun h => by cases h) ?_)
  intro _
  refine vc_exit ?_
  simp only [Exit.then, Exit.inBlock, if_true]
  refine vN (vX (rA (rA (dn (vS (vT ?_))))))
  rw [List.take_of_length_le hge] at hno
  have hf : nm.find? (fun p => decide (normalL p.2 = normalL l)) = none := List.find?_eq_none.2 fun p hp => by rw [hno p hp]; simp
  refine ⟨by simp only [dF]; exact hd, .tuple #[.int .i64 0, .bool false], results_two (by simp (disch := (try simp only [sP]); omega) only [eV]) (by simp (disch := (try simp only [sP]); omega) only [eV]), ?_, hb⟩
  unfold lookN
  rw [hf]
  rfl
 have hlt : i < nm.length := by omega
 refine vS (vC (t := true) (by simp (disch := (try simp only [sP]); omega) only [eV]; simp only [Value.bool.injEq, decide_eq_true_eq]; omega) ?_ (fun h => by cases h))
 intro _
 refine vK ?_
 have hpi : nm[i]? = some nm[i] := List.getElem?_eq_getElem hlt
 have hpm : nm[i] ∈ nm := List.getElem_mem hlt
 generalize nm[i] = p at *
 have hcell : Cells W q (0 + i * 2) (nameV p) := names_at (hcN.below hb hqs) hpi
 refine vS (vc_block (vX ?_))
 refine r_index (b := q) (o := 0) (len := nm.length) (cap := nm.length) (j := i) (k := .i64) hslN (by simp (disch := (try simp only [sP]); omega) only [eV, h8]) (by simp (disch := (try simp only [sP]); omega) only [eV, h10]) hlt ?_
 refine r_loadAgg (b := q) (o := 0 + i * 2) (cs := nameV p) (by simp (disch := (try simp only [sP]); omega) only [eV]) H.agN hcell ?_
 refine r_alloc H.zN ?_
 have hfree : ∀ j, j < (nameV p).length → Free (W.alloc (.cells (Value.agg #[.int .i64 0, .string ⟨#[]⟩]).cells C.tName)) W.heap.size (0 + j) :=
  fun j hj => free_new W _ C.tName (by simpa [Value.cells, nameV] using hj)
 refine r_storeAgg (b := W.heap.size) (o := 0) (cs := nameV p) (by simp (disch := (try simp only [sP]); omega) only [eV]) (by simp (disch := (try simp only [sP]); omega) only [eV]) (by intro v hv; simp only [nameV, List.mem_cons, List.not_mem_nil, or_false] at hv; rcases hv with rfl | rfl <;> rfl) H.agN hfree ?_
 refine dn ?_
 have hcl : ∀ j v, (nameV p)[j]? = some v → (setCells (W.alloc (.cells (Value.agg #[.int .i64 0, .string ⟨#[]⟩]).cells C.tName)) W.heap.size 0 (nameV p)).cell? ⟨W.heap.size, 0 + j, none⟩ = some v :=
  fun j v hv => setCells_cell _ _ _ _ (fun j hj => (hfree j hj).1) j v hv
 have hbW : Below W.heap.size W (setCells (W.alloc (.cells (Value.agg #[.int .i64 0, .string ⟨#[]⟩]).cells C.tName)) W.heap.size 0 (nameV p)) := by
  simp only [nameV, setCells]
  exact ((((Below.refl _ W).alloc (Nat.le_refl _) _).setCell (Nat.le_refl _) _).setCell (Nat.le_refl _) _)
 generalize setCells (W.alloc (.cells (Value.agg #[.int .i64 0, .string ⟨#[]⟩]).cells C.tName)) W.heap.size 0 (nameV p) = W1 at *
 have hvar : W.heap.size < W1.heap.size := by
  have := hcl 0 _ rfl
  by_cases hlt : W.heap.size < W1.heap.size
  ·exact hlt
  ·simp [World.cell?, Array.getElem?_eq_none (Nat.le_of_not_lt hlt)] at this
 have hb1 : Below w.heap.size w W1 := hb.trans (hbW.mono hb.size)
 have hp2 := hnm p hpm
 refine vX ?_
 refine rF (b := W.heap.size) (o := 0) (by simp (disch := (try simp only [sP]); omega) only [eV]) H.f1 ?_
 refine rL (b := W.heap.size) (o := 0 + 1) (by simp (disch := (try simp only [sP]); omega) only [eV]) H.oStr (v := .string ⟨p.2.toArray⟩) (hcl 1 _ rfl) ?_
 refine r_call' (args := #[.string ⟨p.2.toArray⟩]) ?_ (c_normal_ok H.toYT p.2 (by omega) W1) ?_
 ·simp only [lM]
  simp (disch := (try simp only [sP]); omega) only [eV]
 rintro v W2 ⟨rfl, hb2⟩
 refine rM ?_
 refine r_call' (args := #[.string ⟨l.toArray⟩]) ?_ (c_normal_ok H.toYT l hl W2) ?_
 ·simp only [lM]
  simp (disch := (try simp only [sP]); omega) only [eV, h1]
 rintro v W3 ⟨rfl, hb3⟩
 refine r_eqStr (l := normalL p.2) (m := normalL l) (by simp (disch := (try simp only [sP]); omega) only [eV]) (by simp (disch := (try simp only [sP]); omega) only [eV]) ?_
 refine dn ?_
 have hb13 : Below W1.heap.size W1 W3 := hb2.trans (hb3.mono hb2.size)
 have hb03 : Below w.heap.size w W3 := hb1.trans (hb13.mono hb1.size)
 refine vS (vC (t := decide (normalL p.2 = normalL l)) (by simp (disch := (try simp only [sP]); omega) only [eV]) ?_ ?_)
 ·intro hyes
  refine vX ?_
  refine rF (b := W.heap.size) (o := 0) (by simp (disch := (try simp only [sP]); omega) only [eV]) H.f0 ?_
  refine rL (b := W.heap.size) (o := 0 + 0) (by simp (disch := (try simp only [sP]); omega) only [eV]) H.oInt (v := .int .i64 p.1) (by rw [hb13.cell (p := ⟨W.heap.size, 0 + 0, none⟩) hvar]; exact hcl 0 _ rfl) ?_
  refine rA (rA (dn (vS (vT ?_))))
  have hf : nm.find? (fun p => decide (normalL p.2 = normalL l)) = some p := by
   rw [← List.take_append_drop i nm, List.find?_append, List.find?_eq_none.2 fun p hp => by rw [hno p hp]; simp]
   have : nm.drop i = p :: nm.drop (i + 1) := by
    rw [List.drop_eq_getElem_cons hlt]
    congr 1
    rw [List.getElem?_eq_getElem hlt] at hpi
    exact Option.some.inj hpi
   rw [this, List.find?_cons, hyes]
   rfl
  refine ⟨by simp only [dF]; exact hd, .tuple #[.int .i64 p.1, .bool true], results_two (by simp (disch := (try simp only [sP]); omega) only [eV]) (by simp (disch := (try simp only [sP]); omega) only [eV]), ?_, hb03⟩
  unfold lookN
  rw [hf]
  rfl
 ·intro hnot
  refine vK (vN ?_)
  simp only [Exit.inBlock]
  refine vX ?_
  refine r_add (k := .i64) (m := (i : Int)) (n := 1) (by simp (disch := (try simp only [sP]); omega) only [eV, h10]) (by simp (disch := (try simp only [sP]); omega) only [eV]) ?_
  rw [wrap_i64 (by omega) (by omega)]
  refine rM (dn (vN ?_))
  refine ⟨⟨i + 1, by omega, by simp only [zP]; exact hs, by simp only [dF]; exact hd, (by simp (disch := (try simp only [sP]); omega) only [eV, h1]), (by simp (disch := (try simp only [sP]); omega) only [eV, h8]), (by simp (disch := (try simp only [sP]); omega) only [eV, h9]), by simp (disch := (try simp only [sP]); omega) only [eV]; rfl, hb03, ?_⟩, ?_⟩
  ·intro p' hp'
   rw [List.take_add_one, hpi] at hp'
   rcases List.mem_append.1 hp' with hp' | hp'
   ·exact hno p' hp'
   ·simp only [Option.toList_some, List.mem_singleton] at hp'
    subst hp'
    exact hnot
  ·simp (disch := (try simp only [sP]); omega) only [eV, h10]
   simp only [intN]
   omega
end
end Go.Km
namespace Go.Km
open Go Go.RowKit Go.ChangeMaps
attribute [local irreducible] vc rO_ runG runS runD
def MapIs (w : World) (sb q : Nat) (l : List (Nat × List UInt8)) : Prop :=
 ∃ es clock, w.heap[q]? = some (.map es clock) ∧ (∀ e ∈ es.toList, e.born < clock) ∧ (es.toList.map (·.born)).Nodup ∧ l.length = es.size ∧
  ∀ (i : Nat) (x : Nat × List UInt8), l[i]? = some x → ∃ e : MapEntry, es[i]? = some e ∧ e.key = .int .u32 x.1 ∧ SrcV w sb e.val x.2
def TagM (w : World) (sb B : Nat) (v : Value) (tags : List (Nat × List UInt8)) : Prop :=
 TagsOk tags ∧ ((v = .map none ∧ tags = []) ∨ ∃ q l, v = .map (some q) ∧ B ≤ q ∧ q < w.heap.size ∧ MapIs w sb q l ∧ l.Perm tags)
theorem TagM.heap {w w' : World} {sb B : Nat} {v : Value} {tags : List (Nat × List UInt8)} (h : TagM w sb B v tags) (hs : w'.heap[sb]? = w.heap[sb]?) (hz : w.heap.size ≤ w'.heap.size) (hk : ∀ q, v = .map (some q) → w'.heap[q]? = w.heap[q]?) : TagM w' sb B v tags := by
 obtain ⟨h1, h2⟩ := h
 refine ⟨h1, ?_⟩
 rcases h2 with h2 | ⟨q, l, hv, hq, hqs, ⟨es, clock, hm, hb, hn, hl, he⟩, hp⟩
 ·exact .inl h2
 ·refine .inr ⟨q, l, hv, hq, by omega, ⟨es, clock, by rw [hk q hv]; exact hm, hb, hn, hl, fun i x hx => ?_⟩, hp⟩
  obtain ⟨e, e1, e2, e3⟩ := he i x hx
  exact ⟨e, e1, e2, e3.heap hs⟩
section
variable {P : Program}
end
end Go.Km
namespace Go.Km
open Go Go.RowKit Go.ChangeMaps
attribute [local irreducible] vc rO_ runG runS runD
theorem cell_at {w w' : World} {b o : Nat} (h : w'.heap[b]? = w.heap[b]?) : w'.cell? ⟨b, o, none⟩ = w.cell? ⟨b, o, none⟩ := by
 simp only [World.cell?]
 rw [h]
theorem free_at {w w' : World} {b o : Nat} (h : w'.heap[b]? = w.heap[b]?) (hf : Free w b o) : Free w' b o := by
 refine ⟨by rw [cell_at h]; exact hf.1, ?_⟩
 have := hf.2
 simp only [World.frozen?] at this ⊢
 rw [h]
 exact this
section
variable {P : Program} {a : Act} {w : World} {r : List Oper} {Q : Exit → Act → World → Prop}
end
section
variable {P : Program} {E : Env}
end
end Go.Km
namespace Go.Km
open Go Go.RowKit
def c_chain (E : Env) (C : SC) (K : KC) : List (Int × List UInt8) → Nat → Code
 | [], _ => sq [rg [(oQ 6 (.call { callee := .value (.func C.QerrNew), args := #[(.const (.string ⟨K.msg.toArray⟩))], argTypes := #[E.tStr] }) E.tErr),
   (oQ 2 (.assign (.const (.int K.k 0))) K.t),
   (oQ 3 (.assign (.tmp 6)) E.tErr)], .ret]
 | p :: r, t => sq [rg [(oQ (t + 1) (.binOp .eql E.tStr (.tmp 5) (.const (.string ⟨p.2.toArray⟩)) E.tStr) E.tO),
   (oQ t (.assign (.tmp (t + 1))) E.tO)],
   .cond (.tmp t)
    (sq [rg [(oQ 2 (.assign (.const (.int K.k p.1))) K.t),
     (oQ 3 (.assign (.const .nilIface)) E.tErr)], .ret])
    (c_chain E C K r (t + 2))]
def c_parseG (E : Env) (C : SC) (K : KC) : Code :=
 sq [rg [(oQ 2 (.assign (.const (.int K.k 0))) K.t),
   (oQ 3 (.assign (.const .nilIface)) E.tErr)],
  rg [(oQ 4 (.move (.tmp 0)) E.tStr),
   (oQ 5 (.call { callee := .value (.func C.Qstrnorm), args := #[(.tmp 4)], argTypes := #[E.tStr] }) E.tStr)],
  .block 0 (c_chain E C K K.keys 7)]
def c_unmG (E : Env) (C : SC) (K : KC) : Code :=
 sq [rg [(oQ 4 (.assign (.const .nilIface)) E.tErr)],
  rg [(oQ 8 (.move (.tmp 1)) E.tB),
   (oQ 9 (.convert E.tB E.tStr (.tmp 8)) E.tStr),
   (oQ 10 (.call { callee := .value (.func K.Qparse), args := #[(.tmp 9)], argTypes := #[E.tStr] }) K.tup),
   (oQ 7 (.move (.tmp 10)) K.tup),
   (oQ 11 (.extract (.tmp 7) 0) K.t),
   (oQ 12 (.extract (.tmp 7) 1) E.tErr),
   (oQ 5 (.assign (.tmp 11)) K.t),
   (oQ 6 (.assign (.tmp 12)) E.tErr)],
  rg [(oQ 13 (.move (.tmp 0)) K.tp),
   (oQ 14 (.move (.tmp 5)) K.t),
   (oQ 15 (.nilCheck (.tmp 13)) 0),
   ⟨none, .store K.t (.tmp 15) (.tmp 14), 0, "", #[], none⟩],
  rg [(oQ 16 (.move (.tmp 6)) E.tErr),
   (oQ 4 (.assign (.tmp 16)) E.tErr)],
  .ret]
def c_implParseG (E : Env) (C : SC) (K : KC) : Code :=
 sq [rg [(oQ 2 (.assign (.const (.int .i64 0))) E.tI),
   (oQ 3 (.assign (.const (.bool false))) E.tO)],
  rg [(oQ 7 (.move (.tmp 0)) E.tStr),
   (oQ 8 (.call { callee := .value (.func K.Qparse), args := #[(.tmp 7)], argTypes := #[E.tStr] }) K.tup),
   (oQ 6 (.move (.tmp 8)) K.tup),
   (oQ 9 (.extract (.tmp 6) 0) K.t),
   (oQ 10 (.extract (.tmp 6) 1) E.tErr),
   (oQ 4 (.assign (.tmp 9)) K.t),
   (oQ 5 (.assign (.tmp 10)) E.tErr)],
  sq [rg [(oQ 11 (.move (.tmp 5)) E.tErr),
    (oQ 12 (.binOp .neq E.tErr (.tmp 11) (.const .nilIface) E.tErr) E.tO)],
   .cond (.tmp 12)
    (sq [rg [(oQ 2 (.assign (.const (.int .i64 0))) E.tI),
      (oQ 3 (.assign (.const (.bool false))) E.tO)],
     .ret])
    .skip],
  rg [(oQ 13 (.move (.tmp 4)) K.t),
   (oQ 14 (.convert K.t E.tI (.tmp 13)) E.tI),
   (oQ 2 (.assign (.tmp 14)) E.tI),
   (oQ 3 (.assign (.const (.bool true))) E.tO)],
  .ret]
def c_implOfTextG (E : Env) (C : SC) (K : KC) : Code :=
 sq [rg [(oQ 2 (.assign (.const (.int .i64 0))) E.tI),
   (oQ 3 (.assign (.const (.bool false))) E.tO)],
  rg [(oQ 4 (.alloc K.t) 0)],
  rg [(oQ 6 (.move (.tmp 0)) E.tB),
   (oQ 7 (.call { callee := .builtin .append, args := #[(.const (.slice none 0 0)), (.tmp 6)], argTypes := #[E.tB, E.tB] }) E.tB),
   (oQ 8 (.call { callee := .value (.func K.Qunm), args := #[(.tmp 4), (.tmp 7)], argTypes := #[K.t, E.tB] }) E.tErr),
   (oQ 5 (.assign (.tmp 8)) E.tErr)],
  sq [rg [(oQ 9 (.move (.tmp 5)) E.tErr),
    (oQ 10 (.binOp .neq E.tErr (.tmp 9) (.const .nilIface) E.tErr) E.tO)],
   .cond (.tmp 10)
    (sq [rg [(oQ 2 (.assign (.const (.int .i64 0))) E.tI),
      (oQ 3 (.assign (.const (.bool false))) E.tO)],
     .ret])
    .skip],
  rg [(oQ 11 (.load K.t (.tmp 4)) K.t),
   (oQ 12 (.convert K.t E.tI (.tmp 11)) E.tI),
   (oQ 2 (.assign (.tmp 12)) E.tI),
   (oQ 3 (.assign (.const (.bool true))) E.tO)],
  .ret]
attribute [local irreducible] vc rO_ runG runS runD
structure KT (P : Program) (E : Env) (C : SC) (K : KC) (Tab : World → Prop) : Prop extends YT3 P E C where
 shelf : ShelfY P C Tab
 err : ifaceT P E.tErr = true
 layE : lays P C.tEs = some ([(0, 1)], #[.string ⟨#[]⟩])
 ptrE : ∃ e, P.underlying C.tPEs = some (.pointer e)
 kt : intT P K.t = some K.k
 oK : oneT P K.t = true
 zK : zeroT P K.t = some (.int K.k 0)
 hn0 : 0 < K.nm.length
 hn1 : K.nm.length ≤ 1000
 hnl : ∀ p ∈ K.nm, p.2.length ≤ 1000
 hnv : ∀ p ∈ K.nm, 0 ≤ p.1 ∧ p.1 ≤ 1000
 keys : K.keys = K.nm.map fun p => (p.1, normalL p.2)
 tErrNew : Text P C.QerrNew 1 7 #[.tmp 2] (c_errNew E C)
 tNames : Text P K.Qnames 0 (K.nm.length + 2) #[.tmp 0] (c_namesG E C K)
 tParse : Text P K.Qparse 1 (7 + 2 * K.keys.length) #[.tmp 2, .tmp 3] (c_parseG E C K)
 tUnm : Text P K.Qunm 2 17 #[.tmp 4] (c_unmG E C K)
 tImplParse : Text P K.QimplParse 1 15 #[.tmp 2, .tmp 3] (c_implParseG E C K)
 tImplOf : Text P K.QimplOfText 1 13 #[.tmp 2, .tmp 3] (c_implOfTextG E C K)
def KC.look (K : KC) (l : List UInt8) : Option Int := lookN (fun p => decide (normalL p.2 = normalL l)) K.nm
def ErrIf (o : Option Int) (v : Value) : Prop := (o.isSome = true ∧ v = .nilIface) ∨ (o.isSome = false ∧ ∃ u z, v = .iface u z)
section
variable {P : Program} {a : Act} {w : World} {r : List Oper} {Q : Exit → Act → World → Prop}
theorem r_makeIfaceP {d t x ty p af g e} (ht : P.underlying t = some (.pointer e)) (h : rO_ P Q r (a.put (some d) (.iface t (a.eval x))) w) : rO_ P Q (⟨some d, .makeInterface t x, ty, p, af, g⟩ :: r) a w := by
 refine st ?_
 have hr : (Instr.makeInterface t (a.eval x)).run P w = .ok (.iface t (a.eval x)) w := by simp [Instr.makeInterface, run_underlying ht]
 simp only [Oper.wp, execOp, Sem.run_bind, hr, Sem.run_pure, Result.andThen_ok, Oper.upon_value]
 exact h
end
section
variable {P : Program} {E : Env} {C : SC} {K : KC} {Tab : World → Prop}
theorem ErrIf.shape {o : Option Int} {v : Value} (h : ErrIf o v) : v = .nilIface ∨ ∃ u z, v = .iface u z := by
 rcases h with ⟨_, h⟩ | ⟨_, h⟩
 ·exact .inl h
 ·exact .inr h
theorem ErrIf.isErr {o : Option Int} {v : Value} (h : ErrIf o v) : isErr v = !o.isSome := by
 rcases h with ⟨h0, rfl⟩ | ⟨h0, u, z, rfl⟩ <;> rw [h0] <;> rfl
theorem KT.val (H : KT P E C K Tab) (l : List UInt8) : 0 ≤ (K.look l).getD 0 ∧ (K.look l).getD 0 ≤ 1000 := by
 unfold KC.look lookN
 cases h : K.nm.find? (fun p => decide (normalL p.2 = normalL l)) with
 | none => simp
 | some p => simpa using H.hnv p (List.mem_of_find?_eq_some h)
theorem c_errNew_ok (H : KT P E C K Tab) (s : ByteArray) (w : World) : CallsV P C.QerrNew #[.string s] w fun v w' => (∃ u z, v = .iface u z) ∧ Below w.heap.size w w' := by
 obtain ⟨e, hpe⟩ := H.ptrE
 refine CallsV.enter H.tErrNew (by simp) ?_
 intro a hsz hdf harg
 have e0 := harg 0 (.string s) (by simp)
 unfold c_errNew
 refine vX (rA (dn (vX (rM ?_))))
 refine r_build (cells := #[.string s]) H.layE ?_ ?_
 ·simp only [lM]
  simp (disch := (try simp only [sP]); omega) only [eV, e0]
  rfl
 refine r_box (v := .agg #[.string s]) (by simp (disch := (try simp only [sP]); omega) only [eV]) ?_
 refine r_makeIfaceP hpe ?_
 refine rA (dn (vS (vT ?_)))
 exact ⟨by simp only [dF]; exact hdf, .iface C.tPEs (.pointer (some ⟨w.heap.size, 0, none⟩)), rO (by simp (disch := (try simp only [sP]); omega) only [eV]), ⟨_, _, rfl⟩, (Below.refl _ w).alloc (Nat.le_refl _) _⟩
theorem c_chain_ok (H : KT P E C K Tab) (x : List UInt8) : ∀ (ks : List (Int × List UInt8)) (t : Nat) (A : Act) (W : World) (Q : Exit → Act → World → Prop), 7 ≤ t → t + 2 * ks.length ≤ A.tmps.size → A.defers = [] → A.eval (.tmp 5) = .string ⟨x.toArray⟩ →
  (∀ A' W', A'.defers = [] → A'.eval (.tmp 2) = .int K.k ((lookN (fun p => decide (p.2 = x)) ks).getD 0) → ErrIf (lookN (fun p => decide (p.2 = x)) ks) (A'.eval (.tmp 3)) → Below W.heap.size W W' → Q .ret A' W') → vc P (c_chain E C K ks t) Q A W
 | [], t, A, W, Q, ht, hs, hd, h5, hk => by
  simp only [List.length_nil] at hs
  unfold c_chain
  refine vX ?_
  refine r_call' (args := #[.string ⟨K.msg.toArray⟩]) (by simp [eval_const]) (c_errNew_ok H ⟨K.msg.toArray⟩ W) ?_
  rintro v W1 ⟨⟨u, z, rfl⟩, hb⟩
  refine rA (rA (dn (vS (vT ?_))))
  refine hk _ _ (by simp only [dF]; exact hd) (by simp (disch := (try simp only [sP]); omega) only [eV]; rfl) ?_ hb
  rw [show Act.eval _ (.tmp 3) = .iface u z by simp (disch := (try simp only [sP]); omega) only [eV]]
  exact .inr ⟨rfl, u, z, rfl⟩
 | p :: r, t, A, W, Q, ht, hs, hd, h5, hk => by
  simp only [List.length_cons] at hs
  unfold c_chain
  refine vX ?_
  refine r_eqStr (l := x) (m := p.2) (by simp (disch := (try simp only [sP]); omega) only [eV, h5]) rfl ?_
  refine rA (dn ?_)
  refine vS (vC (t := decide (x = p.2)) (by simp (disch := (try simp only [sP]); omega) only [eV]) ?_ ?_)
  ·intro h
   have hx : p.2 = x := by have := of_decide_eq_true h; exact this.symm
   refine vX (rA (rA (dn (vS (vT ?_)))))
   have hl : lookN (fun p => decide (p.2 = x)) (p :: r) = some p.1 := by
    unfold lookN
    rw [List.find?_cons, show decide (p.2 = x) = true by simpa using hx]
    rfl
   rw [hl] at hk
   exact hk _ _ (by simp only [dF]; exact hd) (by simp (disch := (try simp only [sP]); omega) only [eV]; rfl) (.inl ⟨rfl, (by simp (disch := (try simp only [sP]); omega) only [eV])⟩) (Below.refl _ _)
  ·intro h
   have hx : ¬ p.2 = x := fun e => by rw [← e] at h; simp at h
   have hl : lookN (fun p => decide (p.2 = x)) (p :: r) = lookN (fun p => decide (p.2 = x)) r := by
    unfold lookN
    rw [List.find?_cons, show decide (p.2 = x) = false by simpa using hx]
   rw [hl] at hk
   refine vc_mono _ (c_chain_ok H x r (t + 2) _ W (fun e A' W' => e = .ret ∧ Q .ret A' W') (by omega) (by simp only [zP]; omega) (by simp only [dF]; exact hd) (by simp (disch := (try simp only [sP]); omega) only [eV, h5]) (fun A' W' q1 q2 q3 q4 => ⟨rfl, hk A' W' q1 q2 q3 q4⟩)) ?_
   rintro e A' W' ⟨rfl, hq⟩
   exact hq
theorem look_keys (H : KT P E C K Tab) (l : List UInt8) : lookN (fun p => decide (p.2 = normalL l)) K.keys = K.look l := by
 rw [H.keys]
 unfold KC.look lookN
 rw [List.find?_map, Option.map_map]
 rfl
theorem c_parse_ok (H : KT P E C K Tab) (l : List UInt8) (hl : l.length ≤ 1000000) (ha : ∀ b ∈ l, b.toNat < 128) (w : World) (hT : Tab w) : CallsV P K.Qparse #[.string ⟨l.toArray⟩] w fun v w' => (∃ e, v = .tuple #[.int K.k ((K.look l).getD 0), e] ∧ ErrIf (K.look l) e) ∧ Below w.heap.size w w' := by
 refine CallsV.enter H.tParse (by simp; omega) ?_
 intro a hsz hdf harg
 have e0 := harg 0 (.string ⟨l.toArray⟩) (by simp)
 unfold c_parseG
 refine vX (rA (rA (dn (vX (rM ?_)))))
 refine r_call' (args := #[.string ⟨l.toArray⟩]) ?_ (c_strnorm_ok H.toYT2 H.shelf l hl ha w hT) ?_
 ·simp only [lM]
  simp (disch := (try simp only [sP]); omega) only [eV, e0]
 rintro v W1 ⟨rfl, hb1⟩
 refine dn ?_
 refine vS (vc_block (c_chain_ok H (normalL l) K.keys 7 _ W1 _ (by omega) (by simp only [zP]; omega) (by simp only [dF]; exact hdf) (by simp (disch := (try simp only [sP]); omega) only [eV]) ?_))
 intro A' W' h1 h2 h3 h4
 rw [look_keys H] at h2 h3
 exact ⟨h1, .tuple #[.int K.k ((K.look l).getD 0), A'.eval (.tmp 3)], results_two h2 rfl, ⟨_, rfl, h3⟩, hb1.trans (h4.mono hb1.size)⟩
theorem c_implParse_ok (H : KT P E C K Tab) (hk : ∀ x : Int, 0 ≤ x → x ≤ 1000 → IntKind.i64.wrap x = x) (l : List UInt8) (hl : l.length ≤ 1000000) (ha : ∀ b ∈ l, b.toNat < 128) (w : World) (hT : Tab w) :
  CallsV P K.QimplParse #[.string ⟨l.toArray⟩] w fun v w' => v = .tuple #[.int .i64 ((K.look l).getD 0), .bool (K.look l).isSome] ∧ Below w.heap.size w w' := by
 have hval := H.val l
 refine CallsV.enter H.tImplParse (by simp) ?_
 intro a hsz hdf harg
 have e0 := harg 0 (.string ⟨l.toArray⟩) (by simp)
 unfold c_implParseG
 refine vX (rA (rA (dn (vX (rM ?_)))))
 refine r_call' (args := #[.string ⟨l.toArray⟩]) ?_ (c_parse_ok H l hl ha w hT) ?_
 ·simp only [lM]
  simp (disch := (try simp only [sP]); omega) only [eV, e0]
 rintro v W1 ⟨⟨e, rfl, he⟩, hb1⟩
 refine rM ?_
 refine r_extract (vs := #[.int K.k ((K.look l).getD 0), e]) (v := .int K.k ((K.look l).getD 0)) (by simp (disch := (try simp only [sP]); omega) only [eV]) rfl ?_
 refine r_extract (vs := #[.int K.k ((K.look l).getD 0), e]) (v := e) (by simp (disch := (try simp only [sP]); omega) only [eV]) rfl ?_
 refine rA (rA (dn (vS (vX (rM ?_)))))
 refine r_neqNil (v := e) H.err (by simp (disch := (try simp only [sP]); omega) only [eV]) he.shape ?_
 refine dn ?_
 rw [he.isErr]
 refine vS (vC (t := !(K.look l).isSome) (by simp (disch := (try simp only [sP]); omega) only [eV]) ?_ ?_)
 ·intro h
  have hno : K.look l = none := by simpa using h
  refine vX (rA (rA (dn (vS (vT ?_)))))
  refine ⟨by simp only [dF]; exact hdf, .tuple #[.int .i64 0, .bool false], results_two (by simp (disch := (try simp only [sP]); omega) only [eV]) (by simp (disch := (try simp only [sP]); omega) only [eV]), ?_, hb1⟩
  rw [hno]
  rfl
 ·intro h
  have hs : (K.look l).isSome = true := by simpa using h
  refine vK (vN (vX (rM ?_)))
  refine r_conv (k := K.k) (k' := .i64) (m := (K.look l).getD 0) H.kt H.int (by simp (disch := (try simp only [sP]); omega) only [eV]) ?_
  rw [hk _ hval.1 hval.2]
  refine rA (rA (dn (vS (vT ?_))))
  refine ⟨by simp only [dF]; exact hdf, .tuple #[.int .i64 ((K.look l).getD 0), .bool true], results_two (by simp (disch := (try simp only [sP]); omega) only [eV]) (by simp (disch := (try simp only [sP]); omega) only [eV]), ?_, hb1⟩
  rw [hs]
theorem c_unm_ok (H : KT P E C K Tab) {b : Nat} {sv : Value} (l : List UInt8) (hl : l.length ≤ 1000000) (ha : ∀ c ∈ l, c.toNat < 128) {w : World} (hT : Tab w) (hf : Free w b 0) (hr : RowB w sv l) :
  CallsV P K.Qunm #[.pointer (some ⟨b, 0, none⟩), sv] w fun v w' => ErrIf (K.look l) v ∧ ∃ W1, Below w.heap.size w W1 ∧ w' = W1.setCell ⟨b, 0, none⟩ (.int K.k ((K.look l).getD 0)) := by
 refine CallsV.enter H.tUnm (by simp) ?_
 intro a hsz hdf harg
 have e0 := harg 0 (.pointer (some ⟨b, 0, none⟩)) (by simp)
 have e1 := harg 1 sv (by simp)
 unfold c_unmG
 refine vX (rA (dn (vX (rM ?_))))
 refine r_convRow (l := l) H.row H.u8 H.strB (v := sv) (by simp (disch := (try simp only [sP]); omega) only [eV, e1]) hr ?_
 refine r_call' (args := #[.string ⟨l.toArray⟩]) ?_ (c_parse_ok H l hl ha w hT) ?_
 ·simp only [lM]
  simp (disch := (try simp only [sP]); omega) only [eV]
 rintro v W1 ⟨⟨e, rfl, he⟩, hb1⟩
 refine rM ?_
 refine r_extract (vs := #[.int K.k ((K.look l).getD 0), e]) (v := .int K.k ((K.look l).getD 0)) (by simp (disch := (try simp only [sP]); omega) only [eV]) rfl ?_
 refine r_extract (vs := #[.int K.k ((K.look l).getD 0), e]) (v := e) (by simp (disch := (try simp only [sP]); omega) only [eV]) rfl ?_
 refine rA (rA (dn (vX (rM (rM ?_)))))
 refine r_nil (ad := ⟨b, 0, none⟩) (by simp (disch := (try simp only [sP]); omega) only [eV, e0]) ?_
 refine r_store (b := b) (o := 0) (v := .int K.k ((K.look l).getD 0)) (by simp (disch := (try simp only [sP]); omega) only [eV]) (by simp (disch := (try simp only [sP]); omega) only [eV]) rfl H.oK (free_at (hb1.block b hf.lt) hf) ?_
 refine dn (vX (rM (rA (dn (vS (vT ?_))))))
 exact ⟨by simp only [dF]; exact hdf, e, rO (by simp (disch := (try simp only [sP]); omega) only [eV]), he, W1, hb1, rfl⟩
theorem c_implOf_ok (H : KT P E C K Tab) (hk : ∀ x : Int, 0 ≤ x → x ≤ 1000 → IntKind.i64.wrap x = x) {sv : Value} (l : List UInt8) (hl : l.length ≤ 1000000) (ha : ∀ c ∈ l, c.toNat < 128) {w : World} (hT : Tab w) (hr : RowB w sv l) :
  CallsV P K.QimplOfText #[sv] w fun v w' => v = .tuple #[.int .i64 ((K.look l).getD 0), .bool (K.look l).isSome] ∧ Below w.heap.size w w' := by
 have hval := H.val l
 refine CallsV.enter H.tImplOf (by simp) ?_
 intro a hsz hdf harg
 have e0 := harg 0 sv (by simp)
 unfold c_implOfTextG
 refine vX (rA (rA (dn (vX ?_))))
 refine r_alloc H.zK ?_
 refine dn ?_
 have hbA : Below w.heap.size w (w.alloc (.cells (Value.int K.k 0).cells K.t)) := (Below.refl _ w).alloc (Nat.le_refl _) _
 have hfr : Free (w.alloc (.cells (Value.int K.k 0).cells K.t)) w.heap.size 0 := free_new w _ _ (by simp [Value.cells])
 have hltA := hfr.lt
 generalize w.alloc (.cells (Value.int K.k 0).cells K.t) = W1 at *
 refine vX (rM ?_)
 refine r_append (U := W1.heap.size) (v := .slice none 0 0) (n := 0) (xs := []) (u := sv) (m := l.length) (news := l.map bv) H.row rfl (by simp (disch := (try simp only [sP]); omega) only [eV, e0]) (World.ownsRow_nil _ _ _ _) (Nat.le_refl _) ((hr.below hbA).src (rB H.row)) (by unfold big; omega) ?_
 intro v2 W2 hown2 hb2
 rw [List.nil_append, Nat.zero_add] at hown2
 have hb02 : Below w.heap.size w W2 := hbA.trans (hb2.mono hbA.size)
 refine r_call' (args := #[.pointer (some ⟨w.heap.size, 0, none⟩), v2]) ?_ (c_unm_ok H l hl ha (H.shelf.keep w W2 hT hb02) (free_at (hb2.block _ hltA) hfr) (RowB.of_own hown2)) ?_
 ·simp only [lM]
  simp (disch := (try simp only [sP]); omega) only [eV]
 rintro e W4 ⟨he, W3, hb3, rfl⟩
 have hb03 : Below w.heap.size w W3 := hb02.trans (hb3.mono hb02.size)
 have hb04 := hb03.setCell (p := ⟨w.heap.size, 0, none⟩) (Nat.le_refl _) (.int K.k ((K.look l).getD 0))
 have hlt2 : w.heap.size < W2.heap.size := Nat.lt_of_lt_of_le hltA hb2.size
 have hcell : (W3.setCell ⟨w.heap.size, 0, none⟩ (.int K.k ((K.look l).getD 0))).cell? ⟨w.heap.size, 0, none⟩ = some (.int K.k ((K.look l).getD 0)) := by
  refine cell_setCell_same _ ?_
  rw [hb3.cell (p := ⟨w.heap.size, 0, none⟩) hlt2]
  exact (free_at (hb2.block _ hltA) hfr).1
 refine rA (dn (vS (vX (rM ?_))))
 refine r_neqNil (v := e) H.err (by simp (disch := (try simp only [sP]); omega) only [eV]) he.shape ?_
 refine dn ?_
 rw [he.isErr]
 refine vS (vC (t := !(K.look l).isSome) (by simp (disch := (try simp only [sP]); omega) only [eV]) ?_ ?_)
 ·intro h
  have hno : K.look l = none := by simpa using h
  refine vX (rA (rA (dn (vS (vT ?_)))))
  refine ⟨by simp only [dF]; exact hdf, .tuple #[.int .i64 0, .bool false], results_two (by simp (disch := (try simp only [sP]); omega) only [eV]) (by simp (disch := (try simp only [sP]); omega) only [eV]), ?_, hb04⟩
  rw [hno]
  rfl
 ·intro h
  have hs : (K.look l).isSome = true := by simpa using h
  refine vK (vN (vX ?_))
  refine rL (b := w.heap.size) (o := 0) (by simp (disch := (try simp only [sP]); omega) only [eV]) H.oK hcell ?_
  refine r_conv (k := K.k) (k' := .i64) (m := (K.look l).getD 0) H.kt H.int (by simp (disch := (try simp only [sP]); omega) only [eV]) ?_
  rw [hk _ hval.1 hval.2]
  refine rA (rA (dn (vS (vT ?_))))
  refine ⟨by simp only [dF]; exact hdf, .tuple #[.int .i64 ((K.look l).getD 0), .bool true], results_two (by simp (disch := (try simp only [sP]); omega) only [eV]) (by simp (disch := (try simp only [sP]); omega) only [eV]), ?_, hb04⟩
  rw [hs]
theorem c_parsed_ok (H : KT P E C K Tab) {B : Nat} {nv : Value} {w : World} (hN : NamesAt B w nv K.nm) (l : List UInt8) (hl : l.length ≤ 1000000) :
  CallsV P C.Qparsed #[nv, .string ⟨l.toArray⟩, .int .i64 ((K.look l).getD 0), .bool (K.look l).isSome] w fun v w' => v = .bool true ∧ Below w.heap.size w w' := by
 refine CallsV.enter H.tparsed (by simp) ?_
 intro a hsz hdf harg
 have e0 := harg 0 nv (by simp)
 have e1 := harg 1 (.string ⟨l.toArray⟩) (by simp)
 have e2 := harg 2 (.int .i64 ((K.look l).getD 0)) (by simp)
 have e3 := harg 3 (.bool (K.look l).isSome) (by simp)
 unfold c_parsed
 refine vX (rA (dn (vX (rM (rM ?_)))))
 refine r_call' (args := #[nv, .string ⟨l.toArray⟩]) ?_ (c_specParsed_ok H.toYT3 H.hnl H.hn1 hN l hl) ?_
 ·simp only [lM]
  simp (disch := (try simp only [sP]); omega) only [eV, e0, e1]
 rintro v W1 ⟨hv, hb1⟩
 change v = .tuple #[.int .i64 ((K.look l).getD 0), .bool (K.look l).isSome] at hv
 subst hv
 refine rM ?_
 refine r_extract (vs := #[.int .i64 ((K.look l).getD 0), .bool (K.look l).isSome]) (v := .int .i64 ((K.look l).getD 0)) (by simp (disch := (try simp only [sP]); omega) only [eV]) rfl ?_
 refine r_extract (vs := #[.int .i64 ((K.look l).getD 0), .bool (K.look l).isSome]) (v := .bool (K.look l).isSome) (by simp (disch := (try simp only [sP]); omega) only [eV]) rfl ?_
 refine rA (rA (dn ?_))
 refine vS (vc_runS ?_)
 refine rD rfl (wN rfl) (rM (dn (rT ?_)))
 refine rD rfl (wN rfl) (rM (dn (rT ?_)))
 refine rD rfl (wN rfl) (r_eqBool (b := (K.look l).isSome) (c := (K.look l).isSome) H.bool (by simp (disch := (try simp only [sP]); omega) only [eV, e3]) (by simp (disch := (try simp only [sP]); omega) only [eV]) (dn (rT ?_)))
 rw [show ((K.look l).isSome == (K.look l).isSome) = true by simp]
 refine rD rfl (wN rfl) (rM (dn (rT ?_)))
 refine rD rfl (by rw [wS (b := true) rfl rfl (by simp (disch := (try simp only [sP]); omega) only [eV])]; rfl) (rM (dn (rT ?_)))
 refine rD rfl (by rw [wS (b := true) rfl rfl (by simp (disch := (try simp only [sP]); omega) only [eV])]; rfl) (r_not (b := (K.look l).isSome) (by simp (disch := (try simp only [sP]); omega) only [eV, e3]) (dn (rT ?_)))
 refine rD rfl (by rw [wS (b := true) rfl rfl (by simp (disch := (try simp only [sP]); omega) only [eV])]; rfl) (rM (dn (rT ?_)))
 cases hsome : (K.look l).isSome with
 | false =>
  rw [show (!false) = true from rfl]
  refine runS_no rfl (by rw [wS (b := true) rfl rfl (by simp (disch := (try simp only [sP]); omega) only [eV])]; rfl) ?_
  refine runS_no rfl (by rw [wS (b := true) rfl rfl (by simp (disch := (try simp only [sP]); omega) only [eV])]; rfl) ?_
  refine runS_no rfl (by rw [wS (b := true) rfl rfl (by simp (disch := (try simp only [sP]); omega) only [eV])]; rfl) ?_
  refine rD rfl (by rw [wS (b := true) rfl rfl (by simp (disch := (try simp only [sP]); omega) only [eV])]; rfl) (r_pickT (by simp (disch := (try simp only [sP]); omega) only [eV]) (dn (rT ?_)))
  refine rD rfl (wN rfl) (r_pickT (by simp (disch := (try simp only [sP]); omega) only [eV]) (dn (rT ?_)))
  refine rD rfl (wN rfl) (rA (dn (rT ?_)))
  refine runS_nil ?_
  refine vS (vT ?_)
  exact ⟨by simp only [dF]; exact hdf, .bool true, rO (by simp (disch := (try simp only [sP]); omega) only [eV]), rfl, hb1⟩
 | true =>
  rw [show (!true) = false from rfl]
  refine rD rfl (by rw [wS (b := false) rfl rfl (by simp (disch := (try simp only [sP]); omega) only [eV])]; rfl) (rM (dn (rT ?_)))
  refine rD rfl (by rw [wS (b := false) rfl rfl (by simp (disch := (try simp only [sP]); omega) only [eV])]; rfl) (rM (dn (rT ?_)))
  refine rD rfl (by rw [wS (b := false) rfl rfl (by simp (disch := (try simp only [sP]); omega) only [eV])]; rfl) (r_eql (k := .i64) (m := (K.look l).getD 0) (n := (K.look l).getD 0) (by simp (disch := (try simp only [sP]); omega) only [eV, e2]) (by simp (disch := (try simp only [sP]); omega) only [eV]) (dn (rT ?_)))
  rw [show ((K.look l).getD 0 == (K.look l).getD 0) = true by simp]
  refine rD rfl (by rw [wS (b := true) rfl rfl (by simp (disch := (try simp only [sP]); omega) only [eV])]; rfl) (r_pickF (by simp (disch := (try simp only [sP]); omega) only [eV]) (dn (rT ?_)))
  refine rD rfl (wN rfl) (r_pickT (by simp (disch := (try simp only [sP]); omega) only [eV]) (dn (rT ?_)))
  refine rD rfl (wN rfl) (rA (dn (rT ?_)))
  refine runS_nil ?_
  refine vS (vT ?_)
  exact ⟨by simp only [dF]; exact hdf, .bool true, rO (by simp (disch := (try simp only [sP]); omega) only [eV]), rfl, hb1⟩
end
end Go.Km
namespace Go.Km
open Go Go.RowKit
def c_lawP (E : Env) (C : SC) (K : KC) : Code :=
 sq [rg [(oQ 2 (.assign (.const (.bool false))) E.tO)],
  sq [rg [(oQ 7 (.move (.tmp 0)) E.tStr),
    (oQ 8 (.call { callee := .builtin .len, args := #[(.tmp 7)], argTypes := #[E.tStr] }) E.tI),
    (oQ 9 (.binOp .gtr E.tI (.tmp 8) (.const (.int .i64 2147483647)) E.tI) E.tO)],
   .cond (.tmp 9)
    (sq [rg [(oQ 2 (.assign (.const (.bool true))) E.tO)],
     .ret])
    .skip],
  sq [rg [(oQ 10 (.move (.tmp 0)) E.tStr),
    (oQ 11 (.call { callee := .value (.func C.Qplain), args := #[(.tmp 10)], argTypes := #[E.tStr] }) E.tO),
    (oQ 12 (.unOp .not E.tO (.tmp 11)) E.tO)],
   .cond (.tmp 12)
    (sq [rg [(oQ 2 (.assign (.const (.bool true))) E.tO)],
     .ret])
    .skip],
  rg [(oQ 14 (.move (.tmp 0)) E.tStr),
   (oQ 15 (.call { callee := .value (.func K.QimplParse), args := #[(.tmp 14)], argTypes := #[E.tStr] }) C.tRes),
   (oQ 13 (.move (.tmp 15)) C.tRes),
   (oQ 16 (.extract (.tmp 13) 0) E.tI),
   (oQ 17 (.extract (.tmp 13) 1) E.tO),
   (oQ 3 (.assign (.tmp 16)) E.tI),
   (oQ 4 (.assign (.tmp 17)) E.tO)],
  rg [(oQ 19 (.move (.tmp 0)) E.tStr),
   (oQ 20 (.convert E.tStr E.tB (.tmp 19)) E.tB),
   (oQ 21 (.call { callee := .value (.func K.QimplOfText), args := #[(.tmp 20)], argTypes := #[E.tB] }) C.tRes),
   (oQ 18 (.move (.tmp 21)) C.tRes),
   (oQ 22 (.extract (.tmp 18) 0) E.tI),
   (oQ 23 (.extract (.tmp 18) 1) E.tO),
   (oQ 5 (.assign (.tmp 22)) E.tI),
   (oQ 6 (.assign (.tmp 23)) E.tO)],
  rg [(oQ 24 (.call { callee := .value (.func K.Qnames), args := #[], argTypes := #[] }) C.tNames),
   (oQ 25 (.move (.tmp 0)) E.tStr),
   (oQ 26 (.move (.tmp 3)) E.tI),
   (oQ 27 (.move (.tmp 4)) E.tO),
   (oQ 28 (.call { callee := .value (.func C.Qparsed), args := #[(.tmp 24), (.tmp 25), (.tmp 26), (.tmp 27)], argTypes := #[C.tNames, E.tStr, E.tI, E.tO] }) E.tO),
   (oQ 29 (.move (.tmp 28)) E.tO),
   ⟨some 30, .call { callee := .value (.func K.Qnames), args := #[], argTypes := #[] }, C.tNames, "", #[], some (5, true)⟩,
   ⟨some 31, .move (.tmp 0), E.tStr, "", #[], some (5, true)⟩,
   ⟨some 32, .move (.tmp 5), E.tI, "", #[], some (5, true)⟩,
   ⟨some 33, .move (.tmp 6), E.tO, "", #[], some (5, true)⟩,
   ⟨some 34, .call { callee := .value (.func C.Qparsed), args := #[(.tmp 30), (.tmp 31), (.tmp 32), (.tmp 33)], argTypes := #[C.tNames, E.tStr, E.tI, E.tO] }, E.tO, "", #[], some (5, true)⟩,
   (oQ 35 (.pick (.tmp 29) (.tmp 34) (.const (.bool false))) E.tO),
   (oQ 2 (.assign (.tmp 35)) E.tO)],
  .ret]
attribute [local irreducible] vc rO_ runG runS runD
section
variable {P : Program} {a : Act} {w : World} {r : List Oper} {Q : Exit → Act → World → Prop}
theorem r_convSB {d s t x ty p af g e} {l : List UInt8} (hs : P.underlying s = some .string) (hB : rowB P t e 1 = true) (he : intT P e = some .u8) (hx : a.eval x = .string ⟨l.toArray⟩)
  (h : ∀ v w', RowB w' v l → Below w.heap.size w w' → rO_ P Q r (a.put (some d) v) w') : rO_ P Q (⟨some d, .convert s t x, ty, p, af, g⟩ :: r) a w := by
 refine st ?_
 obtain ⟨hu, _⟩ := rowB_inv hB
 have he' : P.underlying e = some (.int .u8) := by
  unfold intT at he
  split at he
  ·simp_all
  ·cases he
 have hr := Lib.run_convert_string_bytes (P := P) w s t e ⟨l.toArray⟩ hs hu he'
 simp only [Oper.wp, execOp, hx, Sem.run_bind, hr, Sem.run_pure, Result.andThen_ok, Oper.upon_value]
 rw [size_ba]
 refine h _ _ (.inr ⟨_, 0, _, rfl, ?_⟩) (Lib.bytesWorld_below w e _)
 intro i u hu
 have hi : i < l.length := by
  have := (List.getElem?_eq_some_iff.1 hu).1
  simpa using this
 rw [List.getElem?_map, List.getElem?_eq_getElem hi] at hu
 cases hu
 rw [Nat.zero_add, Lib.bytesWorld_cell w e _ i (by rw [size_ba]; exact hi)]
 simp [bv, List.getD, hi]
end
theorem wrap_small (x : Int) (h0 : 0 ≤ x) (h1 : x ≤ 1000) : IntKind.i64.wrap x = x := wrap_i64 (by omega) (by omega)
section
variable {P : Program} {E : Env} {C : SC} {K : KC} {Tab : World → Prop}
theorem plain_facts {l : List UInt8} (h : plainL l = true) : l.length ≤ 200 ∧ ∀ b ∈ l, b.toNat < 128 := by
 unfold plainL at h
 simp only [Bool.and_eq_true, decide_eq_true_eq, List.all_eq_true] at h
 exact ⟨h.1.1, h.2⟩
theorem c_lawP_ok (H : KT P E C K Tab) {L : FuncId} (ht : Text P L 1 36 #[.tmp 2] (c_lawP E C K)) (l : List UInt8) (w : World) (hT : Tab w) : CallsV P L #[.string ⟨l.toArray⟩] w fun v w' => v = .bool true ∧ Below w.heap.size w w' := by
 refine CallsV.enter ht (by simp) ?_
 intro a hsz hdf harg
 have e0 := harg 0 (.string ⟨l.toArray⟩) (by simp)
 unfold c_lawP
 refine vX (rA (dn (vS (vX (rM ?_)))))
 refine r_lenStr (s := ⟨l.toArray⟩) H.str (by simp (disch := (try simp only [sP]); omega) only [eV, e0]) ?_
 rw [size_ba]
 refine r_gtr (k := .i64) (m := (l.length : Int)) (n := 2147483647) (by simp (disch := (try simp only [sP]); omega) only [eV]) rfl ?_
 refine dn ?_
 refine vS (vC (t := decide ((l.length : Int) > 2147483647)) (by simp (disch := (try simp only [sP]); omega) only [eV]) ?_ ?_)
 ·intro _
  refine vX (rA (dn (vS (vT ?_))))
  exact ⟨by simp only [dF]; exact hdf, .bool true, rO (by simp (disch := (try simp only [sP]); omega) only [eV]), rfl, Below.refl _ _⟩
 intro _
 refine vK (vN (vS (vX (rM ?_))))
 refine r_call' (args := #[.string ⟨l.toArray⟩]) ?_ (c_plain_ok H.toYT2 l w) ?_
 ·simp only [lM]
  simp (disch := (try simp only [sP]); omega) only [eV, e0]
 rintro v W1 ⟨rfl, hb1⟩
 refine r_not (b := plainL l) (by simp (disch := (try simp only [sP]); omega) only [eV]) ?_
 refine dn ?_
 refine vS (vC (t := !plainL l) (by simp (disch := (try simp only [sP]); omega) only [eV]) ?_ ?_)
 ·intro _
  refine vX (rA (dn (vS (vT ?_))))
  exact ⟨by simp only [dF]; exact hdf, .bool true, rO (by simp (disch := (try simp only [sP]); omega) only [eV]), rfl, hb1⟩
 intro hp
 obtain ⟨hl, ha⟩ := plain_facts (l := l) (by simpa using hp)
 refine vK (vN (vX (rM ?_)))
 refine r_call' (args := #[.string ⟨l.toArray⟩]) ?_ (c_implParse_ok H wrap_small l (by omega) ha W1 (H.shelf.keep w W1 hT hb1)) ?_
 ·simp only [lM]
  simp (disch := (try simp only [sP]); omega) only [eV, e0]
 rintro v W2 ⟨rfl, hb2⟩
 have hb02 : Below w.heap.size w W2 := hb1.trans (hb2.mono hb1.size)
 refine rM ?_
 refine r_extract (vs := #[.int .i64 ((K.look l).getD 0), .bool (K.look l).isSome]) (v := .int .i64 ((K.look l).getD 0)) (by simp (disch := (try simp only [sP]); omega) only [eV]) rfl ?_
 refine r_extract (vs := #[.int .i64 ((K.look l).getD 0), .bool (K.look l).isSome]) (v := .bool (K.look l).isSome) (by simp (disch := (try simp only [sP]); omega) only [eV]) rfl ?_
 refine rA (rA (dn (vX (rM ?_))))
 refine r_convSB (l := l) H.str H.row H.u8 (by simp (disch := (try simp only [sP]); omega) only [eV, e0]) ?_
 intro sv W3 hr3 hb3
 have hb03 : Below w.heap.size w W3 := hb02.trans (hb3.mono hb02.size)
 refine r_call' (args := #[sv]) ?_ (c_implOf_ok H wrap_small l (by omega) ha (H.shelf.keep w W3 hT hb03) hr3) ?_
 ·simp only [lM]
  simp (disch := (try simp only [sP]); omega) only [eV]
 rintro v W4 ⟨rfl, hb4⟩
 have hb04 : Below w.heap.size w W4 := hb03.trans (hb4.mono hb03.size)
 refine rM ?_
 refine r_extract (vs := #[.int .i64 ((K.look l).getD 0), .bool (K.look l).isSome]) (v := .int .i64 ((K.look l).getD 0)) (by simp (disch := (try simp only [sP]); omega) only [eV]) rfl ?_
 refine r_extract (vs := #[.int .i64 ((K.look l).getD 0), .bool (K.look l).isSome]) (v := .bool (K.look l).isSome) (by simp (disch := (try simp only [sP]); omega) only [eV]) rfl ?_
 refine rA (rA (dn ?_))
 generalize hG : Act.put _ (some 6) _ = G
 have hsG : G.tmps.size = 36 := by rw [← hG]; simp only [zP]; exact hsz
 have hdG : G.defers = [] := by rw [← hG]; simp only [dF]; exact hdf
 have k0 : G.eval (.tmp 0) = .string ⟨l.toArray⟩ := by rw [← hG]; simp (disch := (try simp only [sP]); omega) only [eV, e0]
 have k3 : G.eval (.tmp 3) = .int .i64 ((K.look l).getD 0) := by rw [← hG]; simp (disch := (try simp only [sP]); omega) only [eV]
 have k4 : G.eval (.tmp 4) = .bool (K.look l).isSome := by rw [← hG]; simp (disch := (try simp only [sP]); omega) only [eV]
 have k5 : G.eval (.tmp 5) = .int .i64 ((K.look l).getD 0) := by rw [← hG]; simp (disch := (try simp only [sP]); omega) only [eV]
 have k6 : G.eval (.tmp 6) = .bool (K.look l).isSome := by rw [← hG]; simp (disch := (try simp only [sP]); omega) only [eV]
 clear hG
 refine vS (vc_runS ?_)
 refine rD rfl (wN rfl) (r_call' (args := #[]) (by simp) (c_names_ok H.toYT3 H.hn0 H.hn1 (Nat.le_refl _) H.tNames W4) ?_)
 rintro nv W5 ⟨hN5, hb5⟩
 have hb05 : Below w.heap.size w W5 := hb04.trans (hb5.mono hb04.size)
 refine dn (rT ?_)
 refine rD rfl (wN rfl) (rM (dn (rT ?_)))
 refine rD rfl (wN rfl) (rM (dn (rT ?_)))
 refine rD rfl (wN rfl) (rM (dn (rT ?_)))
 refine rD rfl (wN rfl) (r_call' (args := #[nv, .string ⟨l.toArray⟩, .int .i64 ((K.look l).getD 0), .bool (K.look l).isSome]) ?_ (c_parsed_ok H hN5 l (by omega)) ?_)
 ·simp only [lM]
  simp (disch := (try simp only [sP]); omega) only [eV, k0, k3, k4]
 rintro v W6 ⟨rfl, hb6⟩
 have hb06 : Below w.heap.size w W6 := hb05.trans (hb6.mono hb05.size)
 refine dn (rT ?_)
 refine rD rfl (wN rfl) (rM (dn (rT ?_)))
 refine rD rfl (by rw [wS (b := true) rfl rfl (by simp (disch := (try simp only [sP]); omega) only [eV])]; rfl) (r_call' (args := #[]) (by simp) (c_names_ok H.toYT3 H.hn0 H.hn1 (Nat.le_refl _) H.tNames W6) ?_)
 rintro nv2 W7 ⟨hN7, hb7⟩
 have hb07 : Below w.heap.size w W7 := hb06.trans (hb7.mono hb06.size)
 refine dn (rT ?_)
 refine rD rfl (by rw [wS (b := true) rfl rfl (by simp (disch := (try simp only [sP]); omega) only [eV])]; rfl) (rM (dn (rT ?_)))
 refine rD rfl (by rw [wS (b := true) rfl rfl (by simp (disch := (try simp only [sP]); omega) only [eV])]; rfl) (rM (dn (rT ?_)))
 refine rD rfl (by rw [wS (b := true) rfl rfl (by simp (disch := (try simp only [sP]); omega) only [eV])]; rfl) (rM (dn (rT ?_)))
 refine rD rfl (by rw [wS (b := true) rfl rfl (by simp (disch := (try simp only [sP]); omega) only [eV])]; rfl) (r_call' (args := #[nv2, .string ⟨l.toArray⟩, .int .i64 ((K.look l).getD 0), .bool (K.look l).isSome]) ?_ (c_parsed_ok H hN7 l (by omega)) ?_)
 ·simp only [lM]
  simp (disch := (try simp only [sP]); omega) only [eV, k0, k5, k6]
 rintro v W8 ⟨rfl, hb8⟩
 have hb08 : Below w.heap.size w W8 := hb07.trans (hb8.mono hb07.size)
 refine dn (rT ?_)
 refine rD rfl (wN rfl) (r_pickT (by simp (disch := (try simp only [sP]); omega) only [eV]) (dn (rT ?_)))
 refine rD rfl (wN rfl) (rA (dn (rT ?_)))
 refine runS_nil ?_
 refine vS (vT ?_)
 exact ⟨by simp only [dF]; exact hdG, .bool true, rO (by simp (disch := (try simp only [sP]); omega) only [eV]), rfl, hb08⟩
end
end Go.Km
namespace Go.Km
open Go Go.RowKit
structure KX where
 tmar : TypeId := 0
 tsb : TypeId := 0
 tword : TypeId := 0
 Qstr : FuncId := 0
 Qmar : FuncId := 0
 QimplText : FuncId := 0
 QimplString : FuncId := 0
def c_schain (E : Env) (K : KC) : List (Int × List UInt8) → Nat → Code
 | [], _ => sq [rg [(oQ 2 (.assign (.const (.string ⟨#[85, 78, 75, 78, 79, 87, 78]⟩))) E.tStr)], .ret]
 | p :: r, t => sq [rg [(oQ (t + 1) (.binOp .eql K.t (.tmp 3) (.const (.int K.k p.1)) K.t) E.tO),
   (oQ t (.assign (.tmp (t + 1))) E.tO)],
   .cond (.tmp t)
    (sq [rg [(oQ 2 (.assign (.const (.string ⟨p.2.toArray⟩))) E.tStr)], .ret])
    (c_schain E K r (t + 2))]
def c_strG (E : Env) (K : KC) : Code :=
 sq [rg [(oQ 2 (.assign (.const (.string ⟨#[]⟩))) E.tStr)],
  rg [(oQ 3 (.move (.tmp 0)) K.t)],
  .block 0 (c_schain E K K.nm 4)]
def c_marG (E : Env) (K : KC) (X : KX) : Code :=
 sq [rg [(oQ 2 (.assign (.const (.slice none 0 0))) E.tB),
   (oQ 3 (.assign (.const .nilIface)) E.tErr)],
  rg [(oQ 4 (.move (.tmp 0)) K.t),
   (oQ 5 (.call { callee := .value (.func X.Qstr), args := #[(.tmp 4)], argTypes := #[K.t] }) E.tStr),
   (oQ 6 (.convert E.tStr E.tB (.tmp 5)) E.tB),
   (oQ 2 (.assign (.tmp 6)) E.tB),
   (oQ 3 (.assign (.const .nilIface)) E.tErr)],
  .ret]
def c_implTextG (E : Env) (K : KC) (X : KX) (tk : TypeId) : Code :=
 sq [rg [(oQ 2 (.assign (.const (.slice none 0 0))) E.tB),
   (oQ 3 (.assign (.const (.bool false))) E.tO)],
  rg [(oQ 7 (.move (.tmp 0)) tk),
   (oQ 8 (.call { callee := .value (.func X.Qmar), args := #[(.tmp 7)], argTypes := #[K.t] }) X.tmar),
   (oQ 6 (.move (.tmp 8)) X.tmar),
   (oQ 9 (.extract (.tmp 6) 0) E.tB),
   (oQ 10 (.extract (.tmp 6) 1) E.tErr),
   (oQ 4 (.assign (.tmp 9)) E.tB),
   (oQ 5 (.assign (.tmp 10)) E.tErr)],
  rgd [(oQ 11 (.move (.tmp 4)) E.tB),
   ⟨some 12, .call { callee := .builtin .append, args := #[(.const (.slice none 0 0)), (.tmp 11)], argTypes := #[E.tB, E.tB] }, E.tB, "", #[⟨0, .data⟩], none⟩,
   ⟨some 13, .move (.tmp 5), E.tErr, "", #[⟨4, .gcOnly .lateStores⟩], none⟩,
   ⟨some 14, .binOp .eql E.tErr (.tmp 13) (.const .nilIface) E.tErr, E.tO, "", #[⟨2, .data⟩, ⟨4, .gcOnly .lateStores⟩], none⟩,
   ⟨some 2, .assign (.tmp 12), E.tB, "", #[⟨1, .data⟩, ⟨1, .chain⟩, ⟨0, .phase⟩, ⟨1, .phase⟩, ⟨2, .textOnly .lateStores⟩, ⟨3, .textOnly .lateStores⟩], none⟩,
   ⟨some 3, .assign (.tmp 14), E.tO, "", #[⟨3, .data⟩, ⟨4, .chain⟩, ⟨0, .phase⟩, ⟨1, .phase⟩, ⟨2, .phase⟩, ⟨3, .phase⟩, ⟨4, .phase⟩], none⟩],
  .ret]
def c_implStringG (E : Env) (K : KC) (X : KX) (tk : TypeId) : Code :=
 sq [rg [(oQ 2 (.assign (.const (.string ⟨#[]⟩))) E.tStr)],
  rg [(oQ 3 (.move (.tmp 0)) tk),
   (oQ 4 (.call { callee := .value (.func X.Qstr), args := #[(.tmp 3)], argTypes := #[K.t] }) E.tStr),
   (oQ 2 (.assign (.tmp 4)) E.tStr)],
  .ret]
def c_lawT (E : Env) (C : SC) (K : KC) (X : KX) (tk : TypeId) : Code :=
 sq [rg [(oQ 2 (.assign (.const (.bool false))) E.tO)],
  rg [(oQ 12 (.call { callee := .value (.func K.Qnames), args := #[], argTypes := #[] }) C.tNames),
   (oQ 13 (.move (.tmp 0)) tk),
   (oQ 14 (.convert tk E.tI (.tmp 13)) E.tI),
   (oQ 15 (.call { callee := .value (.func C.Qword), args := #[(.tmp 12), (.tmp 14)], argTypes := #[C.tNames, E.tI] }) X.tword),
   (oQ 11 (.move (.tmp 15)) X.tword),
   (oQ 16 (.extract (.tmp 11) 0) E.tStr),
   (oQ 17 (.extract (.tmp 11) 1) E.tO),
   (oQ 3 (.assign (.tmp 16)) E.tStr),
   (oQ 4 (.assign (.tmp 17)) E.tO)],
  sq [rg [(oQ 18 (.move (.tmp 4)) E.tO),
    (oQ 19 (.unOp .not E.tO (.tmp 18)) E.tO)],
   .cond (.tmp 19)
    (sq [rg [(oQ 2 (.assign (.const (.bool true))) E.tO)],
     .ret])
    .skip],
  rg [(oQ 21 (.move (.tmp 0)) tk),
   (oQ 22 (.call { callee := .value (.func X.QimplText), args := #[(.tmp 21)], argTypes := #[tk] }) X.tsb),
   (oQ 20 (.move (.tmp 22)) X.tsb),
   (oQ 23 (.extract (.tmp 20) 0) E.tB),
   (oQ 24 (.extract (.tmp 20) 1) E.tO),
   (oQ 5 (.assign (.tmp 23)) E.tB),
   (oQ 6 (.assign (.tmp 24)) E.tO)],
  sq [rg [(oQ 25 (.move (.tmp 6)) E.tO),
    (oQ 26 (.unOp .not E.tO (.tmp 25)) E.tO),
    (oQ 27 (.move (.tmp 26)) E.tO),
    ⟨some 28, .move (.tmp 0), tk, "", #[], some (2, false)⟩,
    ⟨some 29, .call { callee := .value (.func X.QimplString), args := #[(.tmp 28)], argTypes := #[tk] }, E.tStr, "", #[], some (2, false)⟩,
    ⟨some 30, .move (.tmp 3), E.tStr, "", #[], some (2, false)⟩,
    ⟨some 31, .binOp .neq E.tStr (.tmp 29) (.tmp 30) E.tStr, E.tO, "", #[], some (2, false)⟩,
    (oQ 32 (.pick (.tmp 27) (.const (.bool true)) (.tmp 31)) E.tO),
    (oQ 33 (.move (.tmp 32)) E.tO),
    ⟨some 34, .move (.tmp 5), E.tB, "", #[], some (8, false)⟩,
    ⟨some 35, .convert E.tB E.tStr (.tmp 34), E.tStr, "", #[], some (8, false)⟩,
    ⟨some 36, .move (.tmp 3), E.tStr, "", #[], some (8, false)⟩,
    ⟨some 37, .binOp .neq E.tStr (.tmp 35) (.tmp 36) E.tStr, E.tO, "", #[], some (8, false)⟩,
    (oQ 38 (.pick (.tmp 33) (.const (.bool true)) (.tmp 37)) E.tO)],
   .cond (.tmp 38)
    (sq [rg [(oQ 2 (.assign (.const (.bool false))) E.tO)],
     .ret])
    .skip],
  rg [(oQ 40 (.move (.tmp 3)) E.tStr),
   (oQ 41 (.call { callee := .value (.func K.QimplParse), args := #[(.tmp 40)], argTypes := #[E.tStr] }) C.tRes),
   (oQ 39 (.move (.tmp 41)) C.tRes),
   (oQ 42 (.extract (.tmp 39) 0) E.tI),
   (oQ 43 (.extract (.tmp 39) 1) E.tO),
   (oQ 7 (.assign (.tmp 42)) E.tI),
   (oQ 8 (.assign (.tmp 43)) E.tO)],
  rg [(oQ 45 (.move (.tmp 5)) E.tB),
   (oQ 46 (.call { callee := .value (.func K.QimplOfText), args := #[(.tmp 45)], argTypes := #[E.tB] }) C.tRes),
   (oQ 44 (.move (.tmp 46)) C.tRes),
   (oQ 47 (.extract (.tmp 44) 0) E.tI),
   (oQ 48 (.extract (.tmp 44) 1) E.tO),
   (oQ 9 (.assign (.tmp 47)) E.tI),
   (oQ 10 (.assign (.tmp 48)) E.tO)],
  rg [(oQ 49 (.move (.tmp 8)) E.tO),
   (oQ 50 (.move (.tmp 49)) E.tO),
   ⟨some 51, .move (.tmp 10), E.tO, "", #[], some (1, true)⟩,
   (oQ 52 (.pick (.tmp 50) (.tmp 51) (.const (.bool false))) E.tO),
   (oQ 53 (.move (.tmp 52)) E.tO),
   ⟨some 54, .move (.tmp 7), E.tI, "", #[], some (4, true)⟩,
   ⟨some 55, .move (.tmp 0), tk, "", #[], some (4, true)⟩,
   ⟨some 56, .convert tk E.tI (.tmp 55), E.tI, "", #[], some (4, true)⟩,
   ⟨some 57, .binOp .eql E.tI (.tmp 54) (.tmp 56) E.tI, E.tO, "", #[], some (4, true)⟩,
   (oQ 58 (.pick (.tmp 53) (.tmp 57) (.const (.bool false))) E.tO),
   (oQ 59 (.move (.tmp 58)) E.tO),
   ⟨some 60, .move (.tmp 9), E.tI, "", #[], some (10, true)⟩,
   ⟨some 61, .move (.tmp 0), tk, "", #[], some (10, true)⟩,
   ⟨some 62, .convert tk E.tI (.tmp 61), E.tI, "", #[], some (10, true)⟩,
   ⟨some 63, .binOp .eql E.tI (.tmp 60) (.tmp 62) E.tI, E.tO, "", #[], some (10, true)⟩,
   (oQ 64 (.pick (.tmp 59) (.tmp 63) (.const (.bool false))) E.tO),
   (oQ 2 (.assign (.tmp 64)) E.tO)],
  .ret]
attribute [local irreducible] vc rO_ runG runS runD
structure KXT (P : Program) (E : Env) (C : SC) (K : KC) (X : KX) (tk : TypeId) (Tab : World → Prop) : Prop extends KT P E C K Tab where
 mixed : P.follows .mixedOrders = true
 itk : intT P tk = some K.k
 hself : ∀ p ∈ K.nm, K.look p.2 = some p.1
 hasc : ∀ p ∈ K.nm, ∀ b ∈ p.2, b.toNat < 128
 tword : Text P C.Qword 2 21 #[.tmp 4, .tmp 5] (c_word E C)
 tStr : Text P X.Qstr 1 (4 + 2 * K.nm.length) #[.tmp 2] (c_strG E K)
 tMar : Text P X.Qmar 1 7 #[.tmp 2, .tmp 3] (c_marG E K X)
 tImplText : Text P X.QimplText 1 15 #[.tmp 2, .tmp 3] (c_implTextG E K X tk)
 tImplString : Text P X.QimplString 1 5 #[.tmp 2] (c_implStringG E K X tk)
section
variable {P : Program} {a : Act} {w : World} {r : List Oper} {Q : Exit → Act → World → Prop}
theorem r_neqStr {d T x y yt ty p af g} {l m : List UInt8} (hx : a.eval x = .string ⟨l.toArray⟩) (hy : a.eval y = .string ⟨m.toArray⟩) (h : rO_ P Q r (a.put (some d) (.bool (!decide (l = m)))) w) :
  rO_ P Q (⟨some d, .binOp .neq T x y yt, ty, p, af, g⟩ :: r) a w := by
 refine st ?_
 have hb : binOp .neq T (.string ⟨l.toArray⟩) (.string ⟨m.toArray⟩) = pure (.bool (!decide (l = m))) := by
  rw [binOp_string_neq, ByteArray.toList_mk, ByteArray.toList_mk]
  congr 3
  by_cases h : l = m <;> simp [h]
 have hg : (eqGuard .neq T x y (.string ⟨l.toArray⟩) (.string ⟨m.toArray⟩)) = pure () := rfl
 simp only [Oper.wp, execOp, hx, hy, hg, hb, Sem.run_bind, Sem.run_pure, Result.andThen_ok, Oper.upon_value]
 exact h
theorem r_eqNilI {d t x yt ty p af g} (ht : ifaceT P t = true) (hx : a.eval x = .nilIface) (h : rO_ P Q r (a.put (some d) (.bool true)) w) :
  rO_ P Q (⟨some d, .binOp .eql t x (.const .nilIface) yt, ty, p, af, g⟩ :: r) a w := by
 obtain ⟨ms, hu⟩ : ∃ ms, P.underlying t = some (.interface ms) := by
  unfold ifaceT at ht
  split at ht
  ·rename_i ms h; exact ⟨ms, h⟩
  ·cases ht
 refine st ?_
 have h1 : (eqGuard .eql t x (.const .nilIface) .nilIface .nilIface).run P w = .ok () w := by cases x <;> simp [eqGuard]
 have h2 : (binOp .eql t .nilIface .nilIface).run P w = .ok (.bool true) w := by
  simp only [binOp]
  have h0 : ∀ k : Nat, (Op.equalIn (k + 1) t .nilIface .nilIface).run P w = .ok true w := fun k => by simp [Op.equalIn, run_underlying hu]
  simp [Op.equal, Op.maxDepth, h0 9999]
 simp only [Oper.wp, execOp, hx, eval_const, h1, h2, Sem.run_bind, Sem.run_pure, Result.andThen_ok, Oper.upon_value]
 exact h
end
section
variable {P : Program} {E : Env} {C : SC} {K : KC} {X : KX} {tk : TypeId} {Tab : World → Prop}
def wordN (nm : List (Int × List UInt8)) (x : Int) : Option (Int × List UInt8) := nm.find? fun p => decide (p.1 = x)
theorem c_word_ok (H : KXT P E C K X tk Tab) {B : Nat} {nv : Value} {w : World} (hN : NamesAt B w nv K.nm) (x : Int) :
  CallsV P C.Qword #[nv, .int .i64 x] w fun v w' => v = .tuple #[.string ⟨(((wordN K.nm x).map (·.2)).getD []).toArray⟩, .bool (wordN K.nm x).isSome] ∧ Below w.heap.size w w' := by
 have hn1 := H.hn1
 generalize hnm : K.nm = nm at *
 refine CallsV.enter H.tword (by simp) ?_
 intro a hsz hdf harg
 have e0 := harg 0 nv (by simp)
 have e1 := harg 1 (.int .i64 x) (by simp)
 have hslN := rB H.rowN
 obtain ⟨q, hBq, hqs, rfl, hcN⟩ := hN
 unfold c_word
 refine vX (rA (rA (dn (vS (vX (rM ?_))))))
 refine r_len (ad := some ⟨q, 0, none⟩) (n := nm.length) (c := nm.length) hslN (by simp (disch := (try simp only [sP]); omega) only [eV, e0]) ?_
 refine rM (dn ?_)
 refine vS (vc_block (vc_loop (fun A W => ∃ i, i ≤ nm.length ∧ A.tmps.size = 21 ∧ A.defers = [] ∧ A.eval (.tmp 1) = .int .i64 x ∧ A.eval (.tmp 8) = .slice (some ⟨q, 0, none⟩) nm.length nm.length ∧ A.eval (.tmp 9) = .int .i64 (nm.length : Nat) ∧ A.eval (.tmp 10) = .int .i64 (i : Nat) ∧ Below w.heap.size w W ∧ ∀ p ∈ nm.take i, decide (p.1 = x) = false) (fun A _ => nm.length - intN (A.eval (.tmp 10))) ?_ ?_))
 ·exact ⟨0, by omega, by simp only [zP]; exact hsz, by simp only [dF]; exact hdf, (by simp (disch := (try simp only [sP]); omega) only [eV, e1]), (by simp (disch := (try simp only [sP]); omega) only [eV, e0]), (by simp (disch := (try simp only [sP]); omega) only [eV]), by simp (disch := (try simp only [sP]); omega) only [eV]; rfl, Below.refl _ _, by simp⟩
 rintro A W ⟨i, hil, hs, hd, h1, h8, h9, h10, hb, hno⟩
 refine vX ?_
 refine r_lss (k := .i64) (m := (i : Int)) (n := (nm.length : Int)) (by simp (disch := (try simp only [sP]); omega) only [eV, h10]) (by simp (disch := (try simp only [sP]); omega) only [eV, h9]) ?_
 refine dn ?_
 by_cases hge : nm.length ≤ i
 ·refine vS (vC (t := false) (by simp (disch := (try simp only [sP]); omega) only [eV]; simp only [Value.bool.injEq, decide_eq_false_iff_not]; omega) (fun h => by cases h) ?_)
  intro _
  refine vc_exit ?_
  simp only [Exit.then, Exit.inBlock, if_true]
  refine vN (vX (rA (rA (dn (vS (vT ?_))))))
  rw [List.take_of_length_le hge] at hno
  have hf : wordN nm x = none := List.find?_eq_none.2 fun p hp => by rw [hno p hp]; simp
  refine ⟨by simp only [dF]; exact hd, .tuple #[.string ⟨#[]⟩, .bool false], results_two (by simp (disch := (try simp only [sP]); omega) only [eV]) (by simp (disch := (try simp only [sP]); omega) only [eV]), ?_, hb⟩
  rw [hf]
  rfl
 have hlt : i < nm.length := by omega
 refine vS (vC (t := true) (by simp (disch := (try simp only [sP]); omega) only [eV]; simp only [Value.bool.injEq, decide_eq_true_eq]; omega) ?_ (fun h => by cases h))
 intro _
 refine vK ?_
 have hpi : nm[i]? = some nm[i] := List.getElem?_eq_getElem hlt
 have hpm : nm[i] ∈ nm := List.getElem_mem hlt
 generalize nm[i] = p at *
 have hcell : Cells W q (0 + i * 2) (nameV p) := names_at (hcN.below hb hqs) hpi
 refine vS (vc_block (vX ?_))
 refine r_index (b := q) (o := 0) (len := nm.length) (cap := nm.length) (j := i) (k := .i64) hslN (by simp (disch := (try simp only [sP]); omega) only [eV, h8]) (by simp (disch := (try simp only [sP]); omega) only [eV, h10]) hlt ?_
 refine r_loadAgg (b := q) (o := 0 + i * 2) (cs := nameV p) (by simp (disch := (try simp only [sP]); omega) only [eV]) H.agN hcell ?_
 refine r_alloc H.zN ?_
 have hfree : ∀ j, j < (nameV p).length → Free (W.alloc (.cells (Value.agg #[.int .i64 0, .string ⟨#[]⟩]).cells C.tName)) W.heap.size (0 + j) :=
  fun j hj => free_new W _ C.tName (by simpa [Value.cells, nameV] using hj)
 refine r_storeAgg (b := W.heap.size) (o := 0) (cs := nameV p) (by simp (disch := (try simp only [sP]); omega) only [eV]) (by simp (disch := (try simp only [sP]); omega) only [eV]) (by intro v hv; simp only [nameV, List.mem_cons, List.not_mem_nil, or_false] at hv; rcases hv with rfl | rfl <;> rfl) H.agN hfree ?_
 refine dn ?_
 have hcl : ∀ j v, (nameV p)[j]? = some v → (setCells (W.alloc (.cells (Value.agg #[.int .i64 0, .string ⟨#[]⟩]).cells C.tName)) W.heap.size 0 (nameV p)).cell? ⟨W.heap.size, 0 + j, none⟩ = some v :=
  fun j v hv => setCells_cell _ _ _ _ (fun j hj => (hfree j hj).1) j v hv
 have hbW : Below W.heap.size W (setCells (W.alloc (.cells (Value.agg #[.int .i64 0, .string ⟨#[]⟩]).cells C.tName)) W.heap.size 0 (nameV p)) := by
  simp only [nameV, setCells]
  exact ((((Below.refl _ W).alloc (Nat.le_refl _) _).setCell (Nat.le_refl _) _).setCell (Nat.le_refl _) _)
 generalize setCells (W.alloc (.cells (Value.agg #[.int .i64 0, .string ⟨#[]⟩]).cells C.tName)) W.heap.size 0 (nameV p) = W1 at *
 have hb1 : Below w.heap.size w W1 := hb.trans (hbW.mono hb.size)
 refine vX ?_
 refine rF (b := W.heap.size) (o := 0) (by simp (disch := (try simp only [sP]); omega) only [eV]) H.f0 ?_
 refine rL (b := W.heap.size) (o := 0 + 0) (by simp (disch := (try simp only [sP]); omega) only [eV]) H.oInt (v := .int .i64 p.1) (hcl 0 _ rfl) ?_
 refine rM ?_
 refine r_eql (k := .i64) (m := p.1) (n := x) (by simp (disch := (try simp only [sP]); omega) only [eV]) (by simp (disch := (try simp only [sP]); omega) only [eV, h1]) ?_
 refine dn ?_
 refine vS (vC (t := p.1 == x) (by simp (disch := (try simp only [sP]); omega) only [eV]) ?_ ?_)
 ·intro hyes
  have hyes' : decide (p.1 = x) = true := by simpa using hyes
  refine vX ?_
  refine rF (b := W.heap.size) (o := 0) (by simp (disch := (try simp only [sP]); omega) only [eV]) H.f1 ?_
  refine rL (b := W.heap.size) (o := 0 + 1) (by simp (disch := (try simp only [sP]); omega) only [eV]) H.oStr (v := .string ⟨p.2.toArray⟩) (hcl 1 _ rfl) ?_
  refine rA (rA (dn (vS (vT ?_))))
  have hf : wordN nm x = some p := by
   unfold wordN
   rw [← List.take_append_drop i nm, List.find?_append, List.find?_eq_none.2 fun p hp => by rw [hno p hp]; simp]
   have : nm.drop i = p :: nm.drop (i + 1) := by
    rw [List.drop_eq_getElem_cons hlt]
    congr 1
    rw [List.getElem?_eq_getElem hlt] at hpi
    exact Option.some.inj hpi
   rw [this, List.find?_cons, hyes']
   rfl
  refine ⟨by simp only [dF]; exact hd, .tuple #[.string ⟨p.2.toArray⟩, .bool true], results_two (by simp (disch := (try simp only [sP]); omega) only [eV]) (by simp (disch := (try simp only [sP]); omega) only [eV]), ?_, hb1⟩
  rw [hf]
  rfl
 ·intro hnot
  have hnot' : decide (p.1 = x) = false := by simpa using hnot
  refine vK (vN ?_)
  simp only [Exit.inBlock]
  refine vX ?_
  refine r_add (k := .i64) (m := (i : Int)) (n := 1) (by simp (disch := (try simp only [sP]); omega) only [eV, h10]) (by simp (disch := (try simp only [sP]); omega) only [eV]) ?_
  rw [wrap_i64 (by omega) (by omega)]
  refine rM (dn (vN ?_))
  refine ⟨⟨i + 1, by omega, by simp only [zP]; exact hs, by simp only [dF]; exact hd, (by simp (disch := (try simp only [sP]); omega) only [eV, h1]), (by simp (disch := (try simp only [sP]); omega) only [eV, h8]), (by simp (disch := (try simp only [sP]); omega) only [eV, h9]), by simp (disch := (try simp only [sP]); omega) only [eV]; rfl, hb1, ?_⟩, ?_⟩
  ·intro p' hp'
   rw [List.take_add_one, hpi] at hp'
   rcases List.mem_append.1 hp' with hp' | hp'
   ·exact hno p' hp'
   ·simp only [Option.toList_some, List.mem_singleton] at hp'
    subst hp'
    exact hnot'
  ·simp (disch := (try simp only [sP]); omega) only [eV, h10]
   simp only [intN]
   omega
theorem c_schain_ok (x : Int) {p : Int × List UInt8} {k : IntKind} (hk : K.k = k) : ∀ (ks : List (Int × List UInt8)) (t : Nat) (A : Act) (W : World) (Q : Exit → Act → World → Prop), wordN ks x = some p → 4 ≤ t → t + 2 * ks.length ≤ A.tmps.size → A.defers = [] → A.eval (.tmp 3) = .int K.k x →
    (∀ A', A'.defers = [] → A'.eval (.tmp 2) = .string ⟨p.2.toArray⟩ → Q .ret A' W) → vc P (c_schain E K ks t) Q A W
  | [], t, A, W, Q, hw, ht, hs, hd, h3, hq => by simp [wordN] at hw
  | p0 :: r, t, A, W, Q, hw, ht, hs, hd, h3, hq => by
    simp only [List.length_cons] at hs
    unfold c_schain
    refine vX ?_
    refine r_eql (k := K.k) (m := x) (n := p0.1) (by simp (disch := (try simp only [sP]); omega) only [eV, h3]) rfl ?_
    refine rA (dn ?_)
    refine vS (vC (t := x == p0.1) (by simp (disch := (try simp only [sP]); omega) only [eV]) ?_ ?_)
    · intro h
      have hx : p0.1 = x := by have : x = p0.1 := by simpa using h
                               exact this.symm
      have : p0 = p := by
        unfold wordN at hw
        rw [List.find?_cons, show decide (p0.1 = x) = true by simpa using hx] at hw
        exact Option.some.inj hw
      subst this
      refine vX (rA (dn (vS (vT ?_))))
      exact hq _ (by simp only [dF]; exact hd) (by simp (disch := (try simp only [sP]); omega) only [eV])
    · intro h
      have hx : ¬ p0.1 = x := fun e => by rw [e] at h; simp at h
      have hw' : wordN r x = some p := by
        unfold wordN at hw ⊢
        rw [List.find?_cons, show decide (p0.1 = x) = false by simpa using hx] at hw
        exact hw
      refine vc_mono _ (c_schain_ok x hk r (t + 2) _ W (fun e A' W' => e = .ret ∧ Q .ret A' W') hw' (by omega) (by simp only [zP]; omega) (by simp only [dF]; exact hd) (by simp (disch := (try simp only [sP]); omega) only [eV, h3]) (fun A' q1 q2 => ⟨rfl, hq A' q1 q2⟩)) ?_
      rintro e A' W' ⟨rfl, h⟩
      exact h
theorem c_str_ok (H : KXT P E C K X tk Tab) {x : Int} {p : Int × List UInt8} (hw : wordN K.nm x = some p) (w : World) : CallsV P X.Qstr #[.int K.k x] w fun v w' => v = .string ⟨p.2.toArray⟩ ∧ w' = w := by
 refine CallsV.enter H.tStr (by simp; omega) ?_
 intro a hsz hdf harg
 have e0 := harg 0 (.int K.k x) (by simp)
 unfold c_strG
 refine vX (rA (dn (vX (rM (dn ?_)))))
 refine vS (vc_block (c_schain_ok x rfl K.nm 4 _ w _ hw (by omega) (by simp only [zP]; omega) (by simp only [dF]; exact hdf) (by simp (disch := (try simp only [sP]); omega) only [eV, e0]) ?_))
 intro A' h1 h2
 exact ⟨h1, .string ⟨p.2.toArray⟩, rO h2, rfl, rfl⟩
theorem c_mar_ok (H : KXT P E C K X tk Tab) {x : Int} {p : Int × List UInt8} (hw : wordN K.nm x = some p) (w : World) : CallsV P X.Qmar #[.int K.k x] w fun v w' => (∃ sv, v = .tuple #[sv, .nilIface] ∧ RowB w' sv p.2) ∧ Below w.heap.size w w' := by
 refine CallsV.enter H.tMar (by simp) ?_
 intro a hsz hdf harg
 have e0 := harg 0 (.int K.k x) (by simp)
 unfold c_marG
 refine vX (rA (rA (dn (vX (rM ?_)))))
 refine r_call' (args := #[.int K.k x]) ?_ (c_str_ok H hw w) ?_
 ·simp only [lM]
  simp (disch := (try simp only [sP]); omega) only [eV, e0]
 rintro v W1 ⟨rfl, rfl⟩
 refine r_convSB (l := p.2) H.str H.row H.u8 (by simp (disch := (try simp only [sP]); omega) only [eV]) ?_
 intro sv W3 hr3 hb3
 refine rA (rA (dn (vS (vT ?_))))
 exact ⟨by simp only [dF]; exact hdf, .tuple #[sv, .nilIface], results_two (by simp (disch := (try simp only [sP]); omega) only [eV]) (by simp (disch := (try simp only [sP]); omega) only [eV]), ⟨sv, rfl, hr3⟩, hb3⟩
theorem c_implString_ok (H : KXT P E C K X tk Tab) {x : Int} {p : Int × List UInt8} (hw : wordN K.nm x = some p) (w : World) : CallsV P X.QimplString #[.int K.k x] w fun v w' => v = .string ⟨p.2.toArray⟩ ∧ w' = w := by
 refine CallsV.enter H.tImplString (by simp) ?_
 intro a hsz hdf harg
 have e0 := harg 0 (.int K.k x) (by simp)
 unfold c_implStringG
 refine vX (rA (dn (vX (rM ?_))))
 refine r_call' (args := #[.int K.k x]) ?_ (c_str_ok H hw w) ?_
 ·simp only [lM]
  simp (disch := (try simp only [sP]); omega) only [eV, e0]
 rintro v W1 ⟨rfl, rfl⟩
 refine rA (dn (vS (vT ?_)))
 exact ⟨by simp only [dF]; exact hdf, .string ⟨p.2.toArray⟩, rO (by simp (disch := (try simp only [sP]); omega) only [eV]), rfl, rfl⟩
theorem c_implText_ok (H : KXT P E C K X tk Tab) {x : Int} {p : Int × List UInt8} (hp2 : p.2.length ≤ 1000) (hw : wordN K.nm x = some p) (w : World) : CallsV P X.QimplText #[.int K.k x] w fun v w' => (∃ sv, v = .tuple #[sv, .bool true] ∧ RowB w' sv p.2) ∧ Below w.heap.size w w' := by
 refine CallsV.enter H.tImplText (by simp) ?_
 intro a hsz hdf harg
 have e0 := harg 0 (.int K.k x) (by simp)
 unfold c_implTextG
 refine vX (rA (rA (dn (vX (rM ?_)))))
 refine r_call' (args := #[.int K.k x]) ?_ (c_mar_ok H hw w) ?_
 ·simp only [lM]
  simp (disch := (try simp only [sP]); omega) only [eV, e0]
 rintro v W1 ⟨⟨sv, rfl, hr1⟩, hb1⟩
 refine rM ?_
 refine r_extract (vs := #[sv, .nilIface]) (v := sv) (by simp (disch := (try simp only [sP]); omega) only [eV]) rfl ?_
 refine r_extract (vs := #[sv, .nilIface]) (v := .nilIface) (by simp (disch := (try simp only [sP]); omega) only [eV]) rfl ?_
 refine rA (rA (dn ?_))
 refine vS (vc_rgd [(0, true), (2, true), (3, true), (1, false), (4, true), (5, true)] (fun _ => True) H.mixed (by kernel_rfl) rfl (by kernel_rfl) (fun _ _ _ _ h => False.elim h) ?_)
 refine dP rfl rfl rfl (wN rfl) (by simp only [zP]; omega) trivial (fun w' _ => rM (dn ⟨rfl, rfl, rfl⟩)) ?_
 refine dP rfl rfl rfl (wN rfl) (by simp only [zP]; omega) trivial (fun w' _ => rM (dn ⟨rfl, rfl, rfl⟩)) ?_
 refine dP (v := .bool true) rfl rfl rfl (wN rfl) (by simp only [zP]; omega) trivial (fun w' _ => r_eqNilI H.err (by simp (disch := (try simp only [sP]); omega) only [eV]) (dn ⟨rfl, rfl, rfl⟩)) ?_
 have hbd : Below W1.heap.size W1 { W1 with drawn := W1.drawn + 1 } := ⟨rfl, rfl, rfl, Nat.le_refl _, fun _ _ => rfl⟩
 have hrd : RowB { W1 with drawn := W1.drawn + 1 } sv p.2 := RowB.heap rfl hr1
 generalize ({ W1 with drawn := W1.drawn + 1 } : World) = Wd at *
 refine d_sole rfl (wN rfl) ?_
 refine r_append (U := Wd.heap.size) (v := .slice none 0 0) (n := 0) (xs := []) (u := sv) (m := p.2.length) (news := p.2.map bv) H.row rfl (by simp (disch := (try simp only [sP]); omega) only [eV]) (World.ownsRow_nil _ _ _ _) (Nat.le_refl _) (hrd.src (rB H.row)) (by unfold big; omega) ?_
 intro v2 W2 hown2 hb2
 rw [List.nil_append, Nat.zero_add] at hown2
 refine dn (d_then trivial ?_)
 refine dP rfl rfl rfl (wN rfl) (by simp only [zP]; omega) trivial (fun w' _ => rA (dn ⟨rfl, rfl, rfl⟩)) ?_
 refine dP rfl rfl rfl (wN rfl) (by simp only [zP]; omega) trivial (fun w' _ => rA (dn ⟨rfl, rfl, rfl⟩)) ?_
 refine d_nil ?_
 refine vS (vT ?_)
 have hb1d := hb1.trans (hbd.mono hb1.size)
 exact ⟨by simp only [dF]; exact hdf, .tuple #[v2, .bool true], results_two (by simp (disch := (try simp only [sP]); omega) only [eV]) (by simp (disch := (try simp only [sP]); omega) only [eV]), ⟨v2, rfl, RowB.of_own hown2⟩, hb1d.trans (hb2.mono hb1d.size)⟩
set_option maxHeartbeats 2000000 in
theorem c_lawT_ok (H : KXT P E C K X tk Tab) {L : FuncId} (ht : Text P L 1 65 #[.tmp 2] (c_lawT E C K X tk)) (x : Int) (hx0 : -1000000 ≤ x) (hx1 : x ≤ 1000000) (w : World) (hT : Tab w) : CallsV P L #[.int K.k x] w fun v w' => v = .bool true ∧ Below w.heap.size w w' := by
 have hwx : IntKind.i64.wrap x = x := wrap_i64 (by omega) (by omega)
 refine CallsV.enter ht (by simp) ?_
 intro a hsz hdf harg
 have e0 := harg 0 (.int K.k x) (by simp)
 unfold c_lawT
 refine vX (rA (dn (vX ?_)))
 refine r_call' (args := #[]) (by simp) (c_names_ok H.toYT3 H.hn0 H.hn1 (Nat.le_refl _) H.tNames w) ?_
 rintro nv W1 ⟨hN1, hb1⟩
 refine rM ?_
 refine r_conv (k := K.k) (k' := .i64) (m := x) H.itk H.int (by simp (disch := (try simp only [sP]); omega) only [eV, e0]) ?_
 rw [hwx]
 refine r_call' (args := #[nv, .int .i64 x]) ?_ (c_word_ok H hN1 x) ?_
 ·simp only [lM]
  simp (disch := (try simp only [sP]); omega) only [eV]
 rintro v W2 ⟨rfl, hb2⟩
 have hb02 : Below w.heap.size w W2 := hb1.trans (hb2.mono hb1.size)
 refine rM ?_
 refine r_extract (vs := #[.string ⟨(((wordN K.nm x).map (·.2)).getD []).toArray⟩, .bool (wordN K.nm x).isSome]) (v := .string ⟨(((wordN K.nm x).map (·.2)).getD []).toArray⟩) (by simp (disch := (try simp only [sP]); omega) only [eV]) rfl ?_
 refine r_extract (vs := #[.string ⟨(((wordN K.nm x).map (·.2)).getD []).toArray⟩, .bool (wordN K.nm x).isSome]) (v := .bool (wordN K.nm x).isSome) (by simp (disch := (try simp only [sP]); omega) only [eV]) rfl ?_
 refine rA (rA (dn (vS (vX (rM ?_)))))
 refine r_not (b := (wordN K.nm x).isSome) (by simp (disch := (try simp only [sP]); omega) only [eV]) ?_
 refine dn ?_
 refine vS (vC (t := !(wordN K.nm x).isSome) (by simp (disch := (try simp only [sP]); omega) only [eV]) ?_ ?_)
 ·intro _
  refine vX (rA (dn (vS (vT ?_))))
  exact ⟨by simp only [dF]; exact hdf, .bool true, rO (by simp (disch := (try simp only [sP]); omega) only [eV]), rfl, hb02⟩
 intro hsome
 obtain ⟨p, hw⟩ : ∃ p, wordN K.nm x = some p := Option.isSome_iff_exists.1 (by simpa using hsome)
 have hpm : p ∈ K.nm := List.mem_of_find?_eq_some hw
 have hpx : p.1 = x := by simpa using List.find?_some hw
 have hp2 := H.hnl p hpm
 have hpa := H.hasc p hpm
 have hself := H.hself p hpm
 have hll : (K.look p.2).getD 0 = x := by rw [hself]; exact hpx
 have hls : (K.look p.2).isSome = true := by rw [hself]; rfl
 refine vK (vN ?_)
 rw [hw]
 generalize hG : Act.put _ (some 19) _ = G
 have hsG : G.tmps.size = 65 := by rw [← hG]; simp only [zP]; exact hsz
 have hdG : G.defers = [] := by rw [← hG]; simp only [dF]; exact hdf
 have k0 : G.eval (.tmp 0) = .int K.k x := by rw [← hG]; simp (disch := (try simp only [sP]); omega) only [eV, e0]
 have k3 : G.eval (.tmp 3) = .string ⟨p.2.toArray⟩ := by rw [← hG]; simp (disch := (try simp only [sP]); omega) only [eV]; rfl
 clear hG
 refine vX (rM ?_)
 refine r_call' (args := #[.int K.k x]) ?_ (c_implText_ok H hp2 hw W2) ?_
 ·simp only [lM]
  simp (disch := (try simp only [sP]); omega) only [eV, k0]
 rintro v W3 ⟨⟨sv, rfl, hr3⟩, hb3⟩
 have hb03 : Below w.heap.size w W3 := hb02.trans (hb3.mono hb02.size)
 refine rM ?_
 refine r_extract (vs := #[sv, .bool true]) (v := sv) (by simp (disch := (try simp only [sP]); omega) only [eV]) rfl ?_
 refine r_extract (vs := #[sv, .bool true]) (v := .bool true) (by simp (disch := (try simp only [sP]); omega) only [eV]) rfl ?_
 refine rA (rA (dn ?_))
 refine vS (vS (vc_runS ?_))
 refine rD rfl (wN rfl) (rM (dn (rT ?_)))
 refine rD rfl (wN rfl) (r_not (b := true) (by simp (disch := (try simp only [sP]); omega) only [eV]) (dn (rT ?_)))
 refine rD rfl (wN rfl) (rM (dn (rT ?_)))
 rw [show (!true) = false from rfl]
 refine rD rfl (by rw [wS (b := false) rfl rfl (by simp (disch := (try simp only [sP]); omega) only [eV])]; rfl) (rM (dn (rT ?_)))
 refine rD rfl (by rw [wS (b := false) rfl rfl (by simp (disch := (try simp only [sP]); omega) only [eV])]; rfl) (r_call' (args := #[.int K.k x]) ?_ (c_implString_ok H hw W3) ?_)
 ·simp only [lM]
  simp (disch := (try simp only [sP]); omega) only [eV, k0]
 rintro v W4 ⟨rfl, rfl⟩
 refine dn (rT ?_)
 refine rD rfl (by rw [wS (b := false) rfl rfl (by simp (disch := (try simp only [sP]); omega) only [eV])]; rfl) (rM (dn (rT ?_)))
 refine rD rfl (by rw [wS (b := false) rfl rfl (by simp (disch := (try simp only [sP]); omega) only [eV])]; rfl) (r_neqStr (l := p.2) (m := p.2) (by simp (disch := (try simp only [sP]); omega) only [eV]) (by simp (disch := (try simp only [sP]); omega) only [eV, k3]) (dn (rT ?_)))
 rw [show (!decide (p.2 = p.2)) = false by simp]
 refine rD rfl (wN rfl) (r_pickF (by simp (disch := (try simp only [sP]); omega) only [eV]) (dn (rT ?_)))
 refine rD rfl (wN rfl) (rM (dn (rT ?_)))
 refine rD rfl (by rw [wS (b := false) rfl rfl (by simp (disch := (try simp only [sP]); omega) only [eV])]; rfl) (rM (dn (rT ?_)))
 refine rD rfl (by rw [wS (b := false) rfl rfl (by simp (disch := (try simp only [sP]); omega) only [eV])]; rfl) (r_convRow (l := p.2) H.row H.u8 H.strB (v := sv) (by simp (disch := (try simp only [sP]); omega) only [eV]) hr3 (dn (rT ?_)))
 refine rD rfl (by rw [wS (b := false) rfl rfl (by simp (disch := (try simp only [sP]); omega) only [eV])]; rfl) (rM (dn (rT ?_)))
 refine rD rfl (by rw [wS (b := false) rfl rfl (by simp (disch := (try simp only [sP]); omega) only [eV])]; rfl) (r_neqStr (l := p.2) (m := p.2) (by simp (disch := (try simp only [sP]); omega) only [eV]) (by simp (disch := (try simp only [sP]); omega) only [eV, k3]) (dn (rT ?_)))
 rw [show (!decide (p.2 = p.2)) = false by simp]
 refine rD rfl (wN rfl) (r_pickF (by simp (disch := (try simp only [sP]); omega) only [eV]) (dn (rT ?_)))
 refine runS_nil ?_
 refine vS (vC (t := false) (by simp (disch := (try simp only [sP]); omega) only [eV]) (fun h => by cases h) ?_)
 intro _
 refine vK (vN ?_)
 generalize hG : Act.put _ (some 38) _ = G2
 have hsG2 : G2.tmps.size = 65 := by rw [← hG]; simp only [zP]; exact hsG
 have hdG2 : G2.defers = [] := by rw [← hG]; simp only [dF]; exact hdG
 have k0 : G2.eval (.tmp 0) = .int K.k x := by rw [← hG]; simp (disch := (try simp only [sP]); omega) only [eV, k0]
 have k3 : G2.eval (.tmp 3) = .string ⟨p.2.toArray⟩ := by rw [← hG]; simp (disch := (try simp only [sP]); omega) only [eV, k3]
 have k5 : G2.eval (.tmp 5) = sv := by rw [← hG]; simp (disch := (try simp only [sP]); omega) only [eV]
 clear hG
 refine vX (rM ?_)
 refine r_call' (args := #[.string ⟨p.2.toArray⟩]) ?_ (c_implParse_ok H.toKT wrap_small p.2 (by omega) hpa W4 (H.shelf.keep w W4 hT hb03)) ?_
 ·simp only [lM]
  simp (disch := (try simp only [sP]); omega) only [eV, k3]
 rw [hll, hls]
 rintro v W5 ⟨rfl, hb5⟩
 have hb05 : Below w.heap.size w W5 := hb03.trans (hb5.mono hb03.size)
 have hr5 : RowB W5 sv p.2 := hr3.below hb5
 refine rM ?_
 refine r_extract (vs := #[.int .i64 x, .bool true]) (v := .int .i64 x) (by simp (disch := (try simp only [sP]); omega) only [eV]) rfl ?_
 refine r_extract (vs := #[.int .i64 x, .bool true]) (v := .bool true) (by simp (disch := (try simp only [sP]); omega) only [eV]) rfl ?_
 refine rA (rA (dn (vX (rM ?_))))
 refine r_call' (args := #[sv]) ?_ (c_implOf_ok H.toKT wrap_small p.2 (by omega) hpa (H.shelf.keep w W5 hT hb05) hr5) ?_
 ·simp only [lM]
  simp (disch := (try simp only [sP]); omega) only [eV, k5]
 rw [hll, hls]
 rintro v W6 ⟨rfl, hb6⟩
 have hb06 : Below w.heap.size w W6 := hb05.trans (hb6.mono hb05.size)
 refine rM ?_
 refine r_extract (vs := #[.int .i64 x, .bool true]) (v := .int .i64 x) (by simp (disch := (try simp only [sP]); omega) only [eV]) rfl ?_
 refine r_extract (vs := #[.int .i64 x, .bool true]) (v := .bool true) (by simp (disch := (try simp only [sP]); omega) only [eV]) rfl ?_
 refine rA (rA (dn ?_))
 refine vS (vc_runS ?_)
 refine rD rfl (wN rfl) (rM (dn (rT ?_)))
 refine rD rfl (wN rfl) (rM (dn (rT ?_)))
 refine rD rfl (by rw [wS (b := true) rfl rfl (by simp (disch := (try simp only [sP]); omega) only [eV])]; rfl) (rM (dn (rT ?_)))
 refine rD rfl (wN rfl) (r_pickT (by simp (disch := (try simp only [sP]); omega) only [eV]) (dn (rT ?_)))
 refine rD rfl (wN rfl) (rM (dn (rT ?_)))
 refine rD rfl (by rw [wS (b := true) rfl rfl (by simp (disch := (try simp only [sP]); omega) only [eV])]; rfl) (rM (dn (rT ?_)))
 refine rD rfl (by rw [wS (b := true) rfl rfl (by simp (disch := (try simp only [sP]); omega) only [eV])]; rfl) (rM (dn (rT ?_)))
 refine rD rfl (by rw [wS (b := true) rfl rfl (by simp (disch := (try simp only [sP]); omega) only [eV])]; rfl) (r_conv (k := K.k) (k' := .i64) (m := x) H.itk H.int (by simp (disch := (try simp only [sP]); omega) only [eV, k0]) (dn (rT ?_)))
 rw [hwx]
 refine rD rfl (by rw [wS (b := true) rfl rfl (by simp (disch := (try simp only [sP]); omega) only [eV])]; rfl) (r_eql (k := .i64) (m := x) (n := x) (by simp (disch := (try simp only [sP]); omega) only [eV]) (by simp (disch := (try simp only [sP]); omega) only [eV]) (dn (rT ?_)))
 rw [show (x == x) = true by simp]
 refine rD rfl (wN rfl) (r_pickT (by simp (disch := (try simp only [sP]); omega) only [eV]) (dn (rT ?_)))
 refine rD rfl (wN rfl) (rM (dn (rT ?_)))
 refine rD rfl (by rw [wS (b := true) rfl rfl (by simp (disch := (try simp only [sP]); omega) only [eV])]; rfl) (rM (dn (rT ?_)))
 refine rD rfl (by rw [wS (b := true) rfl rfl (by simp (disch := (try simp only [sP]); omega) only [eV])]; rfl) (rM (dn (rT ?_)))
 refine rD rfl (by rw [wS (b := true) rfl rfl (by simp (disch := (try simp only [sP]); omega) only [eV])]; rfl) (r_conv (k := K.k) (k' := .i64) (m := x) H.itk H.int (by simp (disch := (try simp only [sP]); omega) only [eV, k0]) (dn (rT ?_)))
 rw [hwx]
 refine rD rfl (by rw [wS (b := true) rfl rfl (by simp (disch := (try simp only [sP]); omega) only [eV])]; rfl) (r_eql (k := .i64) (m := x) (n := x) (by simp (disch := (try simp only [sP]); omega) only [eV]) (by simp (disch := (try simp only [sP]); omega) only [eV]) (dn (rT ?_)))
 rw [show (x == x) = true by simp]
 refine rD rfl (wN rfl) (r_pickT (by simp (disch := (try simp only [sP]); omega) only [eV]) (dn (rT ?_)))
 refine rD rfl (wN rfl) (rA (dn (rT ?_)))
 refine runS_nil ?_
 refine vS (vT ?_)
 exact ⟨by simp only [dF]; exact hdG2, .bool true, rO (by simp (disch := (try simp only [sP]); omega) only [eV]), rfl, hb06⟩
end
end Go.Km
namespace Go.Km
open Go Go.RowKit
def Tr.s : Tr → List UInt8
 | .mk _ s _ _ _ => s
def Tr.n : Tr → Int
 | .mk n _ _ _ _ => n
def Tr.l : Tr → List Tr
 | .mk _ _ _ l _ => l.toL
end Go.Km
namespace Go.Km
open Go Go.RowKit
end Go.Km
namespace Go.Km
open Go Go.RowKit
attribute [local irreducible] vc rO_ runG runS runD
def SlF (w : World) (U : Nat) (v : Value) (fs : SFs) : Prop :=
 (v = .slice none 0 0 ∧ fs.len = 0) ∨ ∃ q o cap, v = .slice (some ⟨q, o, none⟩) fs.len cap ∧ fs.len ≤ cap ∧ q < U ∧ fs.Rep w U q o
theorem SlF.below {w w' : World} {U : Nat} {v : Value} {fs : SFs} (h : SlF w U v fs) (hw : Below U w w') : SlF w' U v fs := by
 rcases h with h | ⟨q, o, cap, h1, h2, h3, h4⟩
 ·exact .inl h
 ·exact .inr ⟨q, o, cap, h1, h2, h3, h4.below hw h3⟩
theorem OctsB.mono {W : World} {B B' : Nat} {v : Value} {l : List UInt8} (h : OctsB W B v l) (hB : B ≤ B') : OctsB W B' v l := by
 rcases h with h | ⟨q, o, cap, h1, h2, h3, h4⟩
 ·exact .inl h
 ·exact .inr ⟨q, o, cap, h1, h2, by omega, h4⟩
theorem UnkB.mono {W : World} {B B' : Nat} {v : Value} {u : List (Nat × List UInt8)} (h : UnkB W B v u) (hB : B ≤ B') : UnkB W B' v u := by
 rcases h with h | ⟨q, o, cap, h1, h2, h3, h4⟩
 ·exact .inl h
 ·refine .inr ⟨q, o, cap, h1, h2, by omega, fun i x hx => ?_⟩
  obtain ⟨sv, h0, h5, h6⟩ := h4 i x hx
  exact ⟨sv, h0, h5, h6.mono hB⟩
mutual
theorem Tr.Rep.mono {w : World} {U U' : Nat} (hU : U ≤ U') : ∀ {t : Tr} {cs : List Value}, t.Rep w U cs → t.Rep w U' cs
 | .mk n s nl l u, cs, ⟨sv, lv, uv, h1, h2, h3, h4⟩ => by
  refine ⟨sv, lv, uv, h1, h2.mono hU, h3.mono hU, ?_⟩
  rcases h4 with h4 | ⟨q, o, cap, h5, h6, h7, h8⟩
  ·exact .inl h4
  ·exact .inr ⟨q, o, cap, h5, h6, by omega, Trs.Rep.mono hU h8⟩
theorem Trs.Rep.mono {w : World} {U U' q : Nat} (hU : U ≤ U') : ∀ {l : Trs} {o : Nat}, l.Rep w U q o → l.Rep w U' q o
 | .nil, _, _ => trivial
 | .cons t r, o, ⟨⟨c, h1, h2⟩, h3⟩ => ⟨⟨c, h1, Tr.Rep.mono hU h2⟩, Trs.Rep.mono hU h3⟩
end
mutual
theorem SF.Rep.mono {w : World} {U U' : Nat} (hU : U ≤ U') : ∀ {t : SF} {cs : List Value}, t.Rep w U cs → t.Rep w U' cs
 | .mk kind fr to nul tag df el sub, cs, ⟨sv, h1, h4⟩ => by
  refine ⟨sv, h1, ?_⟩
  rcases h4 with h4 | ⟨q, o, cap, h5, h6, h7, h8⟩
  ·exact .inl h4
  ·exact .inr ⟨q, o, cap, h5, h6, by omega, SFs.Rep.mono hU h8⟩
theorem SFs.Rep.mono {w : World} {U U' q : Nat} (hU : U ≤ U') : ∀ {l : SFs} {o : Nat}, l.Rep w U q o → l.Rep w U' q o
 | .nil, _, _ => trivial
 | .cons t r, o, ⟨⟨c, h1, h2⟩, h3⟩ => ⟨⟨c, h1, SF.Rep.mono hU h2⟩, SFs.Rep.mono hU h3⟩
end
theorem SlF.mono {w : World} {U U' : Nat} {v : Value} {fs : SFs} (h : SlF w U v fs) (hU : U ≤ U') : SlF w U' v fs := by
 rcases h with h | ⟨q, o, cap, h1, h2, h3, h4⟩
 ·exact .inl h
 ·exact .inr ⟨q, o, cap, h1, h2, by omega, h4.mono hU⟩
section
variable {P : Program} {E : Env} {w : World} {U : Nat}
theorem src_empty {P : Program} {t e : TypeId} {s cap : Nat} {ad : Option Addr} {w : World} (ht : sliceT P t = some (e, s)) : Src P s t (.slice ad 0 cap) 0 [] w := by
 cases ad with
 | none => exact src_nil ht
 | some a => exact Src.ofSlice w (sliceT_inv ht).1 a 0 cap [] (by simp) (fun j u hu => by simp at hu) (fun u hu => by simp at hu)
theorem OctsB.src {v : Value} {l : List UInt8} {T e : TypeId} (hT : sliceT P T = some (e, 1)) (h : OctsB w U v l) : Src P 1 T v l.length (l.map bv) w := by
 rcases h with ⟨⟨ad, cap, rfl⟩, rfl⟩ | ⟨q, o, cap, rfl, hcap, hq, hc⟩
 ·exact src_empty hT
 ·exact src_cells hT hc (by simp) (bv_one l)
end
end Go.Km
namespace Go.Km
open Go Go.RowKit
attribute [local irreducible] vc rO_ runG runS runD
section
variable {P : Program} {a : Act} {w : World} {r : List Oper} {Q : Exit → Act → World → Prop} {U : Nat}
end
end Go.Km
namespace Go.Km
open Go Go.RowKit
attribute [local irreducible] vc rO_ runG runS runD
section
variable {P : Program} {E : Env} {w : World} {U : Nat}
end
end Go.Km
namespace Go.Km
open Go Go.RowKit
attribute [local irreducible] vc rO_ runG runS runD
def SF.sub : SF → SFs
 | .mk _ _ _ _ _ _ _ sub => sub
structure FFr (P : Program) (E : Env) (w : World) (U : Nat) (ver : Int) (fx nl : Bool) (cs ts : List Value) (b : Nat) (A : Act) (W : World) : Prop where
 size : A.tmps.size = 76
 defers : A.defers = []
 s1 : A.eval (.tmp 1) = .int .i64 ver
 s2 : A.eval (.tmp 2) = .bool fx
 s4 : A.eval (.tmp 4) = .pointer (some ⟨b, 0, none⟩)
 s7 : A.eval (.tmp 7) = .pointer (some ⟨b + 1, 0, none⟩)
 s9 : A.eval (.tmp 9) = .bool nl
 below : Below U w W
 bU : U ≤ b
 bW : b + 1 < W.heap.size
 cf : Cells W b 0 cs
 ct : Cells W (b + 1) 0 ts
theorem FFr.put {P : Program} {E : Env} {w : World} {U : Nat} {ver : Int} {fx nl : Bool} {cs ts : List Value} {b : Nat} {A : Act} {W : World} (h : FFr P E w U ver fx nl cs ts b A W) {d : Nat} (v : Value) (hd : 9 < d ∨ d = 8) : FFr P E w U ver fx nl cs ts b (A.put (some d) v) W :=
  ⟨by rw [zP]; exact h.size, by rw [dF]; exact h.defers, by rw [eval_put_ne _ _ _ _ (by omega)]; exact h.s1, by rw [eval_put_ne _ _ _ _ (by omega)]; exact h.s2, by rw [eval_put_ne _ _ _ _ (by omega)]; exact h.s4,
   by rw [eval_put_ne _ _ _ _ (by omega)]; exact h.s7, by rw [eval_put_ne _ _ _ _ (by omega)]; exact h.s9, h.below, h.bU, h.bW, h.cf, h.ct⟩
section
variable {P : Program} {E : Env} {w : World} {U : Nat}
end
end Go.Km
namespace Go.Km
open Go Go.RowKit
attribute [local irreducible] vc rO_ runG runS runD
def ListB (w : World) (U : Nat) (v : Value) (L : List Tr) : Prop :=
 (NilS v ∧ L = []) ∨ ∃ q o cap, v = .slice (some ⟨q, o, none⟩) L.length cap ∧ q < U ∧ ∀ (i : Nat) (t : Tr), L[i]? = some t → ∃ c, Cells w q (o + i * 5) c ∧ t.Rep w U c
section
variable {P : Program} {E : Env} {w : World} {U : Nat}
theorem ListB.below {w w' : World} {v : Value} {L : List Tr} (h : ListB w U v L) (hw : Below U w w') : ListB w' U v L := by
 rcases h with h | ⟨q, o, cap, h1, h2, h3⟩
 ·exact .inl h
 ·refine .inr ⟨q, o, cap, h1, h2, fun i t ht => ?_⟩
  obtain ⟨c, h4, h5⟩ := h3 i t ht
  exact ⟨c, h4.below hw h2, h5.below hw⟩
end
end Go.Km
namespace Go.Km
open Go Go.RowKit
attribute [local irreducible] vc rO_ runG runS runD
section
variable {P : Program} {E : Env} {w : World} {U : Nat}
end
end Go.Km
namespace Go.Km
open Go Go.RowKit
attribute [local irreducible] vc rO_ runG runS runD
section
variable {P : Program} {E : Env}
end
end Go.Km
namespace Go.Km
open Go Go.RowKit
attribute [local irreducible] vc rO_ runG runS runD
def SF.tag : SF → Int
 | .mk _ _ _ _ tag _ _ _ => tag
section
variable {P : Program} {a : Act} {w : World} {r : List Oper} {Q : Exit → Act → World → Prop}
end
section
variable {P : Program} {E : Env} {w : World} {U : Nat}
end
end Go.Km
namespace Go.Km
open Go Go.RowKit
attribute [local irreducible] vc rO_ runG runS runD
section
variable {P : Program} {E : Env} {w : World} {U : Nat}
end
end Go.Km
namespace Go.Km
open Go Go.RowKit
attribute [local irreducible] vc rO_ runG runS runD
theorem Cells.grown {w w' : World} {b o : Nat} {cs : List Value} {row : Option Nat} (h : Cells w b o cs) (hg : w.grownBy w' row) (hb : b < w.heap.size) (hne : some b ≠ row) : Cells w' b o cs := by
 intro i v hv
 have := h i v hv
 have e : w'.heap[b]? = w.heap[b]? := hg.block b hb hne
 simp only [World.cell?] at this ⊢
 rw [e]
 exact this
section
variable {P : Program} {a : Act} {w : World} {r : List Oper} {Q : Exit → Act → World → Prop}
end
section
variable {P : Program} {E : Env} {w : World} {U : Nat}
end
end Go.Km
namespace Go.Km
open Go Go.RowKit
attribute [local irreducible] vc rO_ runG runS runD
def Tr.tags : Tr → List (Nat × List UInt8)
 | .mk _ _ _ _ u => u
section
variable {P : Program} {E : Env} {w : World} {U : Nat}
end
end Go.Km
namespace Go.Km
open Go Go.RowKit
attribute [local irreducible] vc rO_ runG runS runD
def pos (x : Nat) (l : List (Nat × List UInt8)) : Nat := (l.takeWhile fun y => decide (y.1 < x)).length
abbrev UE := (Nat × List UInt8) × Value
def fl : List UE → List Value
 | [] => []
 | e :: r => .int .u32 (e.1.1 : Int) :: e.2 :: fl r
theorem fl_len : ∀ l, (fl l).length = l.length * 2
 | [] => rfl
 | e :: r => by simp [fl, fl_len r]; omega
theorem fl_get0 : ∀ (l : List UE) (i : Nat) (e : UE), l[i]? = some e → (fl l)[i * 2]? = some (.int .u32 (e.1.1 : Int))
 | [], i, e, h => by simp at h
 | x :: r, 0, e, h => by simp at h; subst h; rfl
 | x :: r, i + 1, e, h => by
  have := fl_get0 r i e (by simpa using h)
  rw [show (i + 1) * 2 = i * 2 + 1 + 1 by omega]
  simpa [fl] using this
theorem fl_get1 : ∀ (l : List UE) (i : Nat) (e : UE), l[i]? = some e → (fl l)[i * 2 + 1]? = some e.2
 | [], i, e, h => by simp at h
 | x :: r, 0, e, h => by simp at h; subst h; rfl
 | x :: r, i + 1, e, h => by
  have := fl_get1 r i e (by simpa using h)
  rw [show (i + 1) * 2 + 1 = i * 2 + 1 + 1 + 1 by omega]
  simpa [fl] using this
theorem own_cells2 {w : World} {B : Nat} {e : TypeId} {g n cap i : Nat} {l : List UE} {x : UE} (h : w.ownsRow B e 2 (.slice (some ⟨g, 0, none⟩) n cap) n (fl l)) (hx : l[i]? = some x) : Cells w g (i * 2) [.int .u32 (x.1.1 : Int), x.2] := by
 have hl := h.1
 rw [fl_len] at hl
 have hi : i < l.length := by
  rcases Nat.lt_or_ge i l.length with h | h
  ·exact h
  ·rw [List.getElem?_eq_none h] at hx; cases hx
 intro j v hv
 match j, hv with
 | 0, hv =>
  simp only [List.getElem?_cons_zero, Option.some.injEq] at hv
  subst hv
  rw [Nat.add_zero, h.cellAt _ (by omega)]
  exact fl_get0 l i x hx
 | 1, hv =>
  simp only [List.getElem?_cons_succ, List.getElem?_cons_zero, Option.some.injEq] at hv
  subst hv
  rw [h.cellAt _ (by omega)]
  exact fl_get1 l i x hx
theorem own_form2 {w : World} {B : Nat} {e : TypeId} {v : Value} {n : Nat} {xs : List Value} (h : w.ownsRow B e 2 v n xs) : (v = .slice none 0 0 ∧ n = 0) ∨ ∃ g cap, v = .slice (some ⟨g, 0, none⟩) n cap ∧ n ≤ cap ∧ B ≤ g ∧ g < w.heap.size := by
 rcases h.2 with h' | ⟨g, cap, cur, h1, h2, h3, h4, _⟩
 ·exact .inl h'
 ·exact .inr ⟨g, cap, h1, h4, h2, (Array.getElem?_eq_some_iff.1 h3).1⟩
section
variable {P : Program} {E : Env} {w : World} {U : Nat}
end
end Go.Km
namespace Go.Km
open Go Go.RowKit
attribute [local irreducible] vc rO_ runG runS runD
section
variable {P : Program} {E : Env} {w : World} {U : Nat}
end
end Go.Km
namespace Go.Km
open Go Go.RowKit
attribute [local irreducible] vc rO_ runG runS runD
theorem UnkB.of_own {w w' : World} {U B : Nat} {e : TypeId} {v : Value} {es : List UE} (h : w'.ownsRow B e 2 v es.length (fl es)) (hok : ∀ x ∈ es, x.1.1 < 4294967296 ∧ OctsB w U x.2 x.1.2) (hU : U ≤ w.heap.size) (hw : Below U w w') : UnkB w' w'.heap.size v (es.map (·.1)) := by
 have hUw : U ≤ w'.heap.size := Nat.le_trans hU hw.size
 rcases own_form2 h with ⟨rfl, h0⟩ | ⟨g, cap, rfl, hc, _, hg⟩
 ·refine .inl ⟨nilS, ?_⟩
  rw [List.eq_nil_of_length_eq_zero h0]
  rfl
 ·refine .inr ⟨g, 0, cap, by rw [List.length_map], by rw [List.length_map]; exact hc, hg, fun i x hx => ?_⟩
  rw [List.getElem?_map] at hx
  cases hi : es[i]? with
  | none => rw [hi] at hx; cases hx
  | some e =>
   rw [hi, Option.map_some, Option.some.injEq] at hx
   subst hx
   obtain ⟨h1, h2⟩ := hok e (List.mem_of_getElem? hi)
   exact ⟨e.2, h1, by rw [Nat.zero_add]; exact own_cells2 h hi, (h2.below hw).mono hUw⟩
section
variable {P : Program} {E : Env} {w : World} {U : Nat}
end
end Go.Km
namespace Go.Km
open Go Go.RowKit
section
variable {P : Program} {E : Env}
end
end Go.Km
namespace Go.Km
open Go Go.RowKit
attribute [local irreducible] vc rO_ runG runS runD
section
variable {P : Program} {a : Act} {w : World} {r : List Oper} {Q : Exit → Act → World → Prop}
end
mutual
def Tr.RepD (w : World) (S : Nat → Prop) : Tr → List Value → Prop
 | .mk n s nl l u, cs => s = [] ∧ u = [] ∧ ∃ lv, cs = [.int .i64 n, .slice none 0 0, .bool nl, lv, .slice none 0 0] ∧
   ((lv = .slice none 0 0 ∧ l.len = 0) ∨ ∃ q cap, lv = .slice (some ⟨q, 0, none⟩) l.len cap ∧ l.len ≤ cap ∧ S q ∧ l.RepD w S q 0)
def Trs.RepD (w : World) (S : Nat → Prop) (q : Nat) : Trs → Nat → Prop
 | .nil, _ => True
 | .cons t r, o => (∃ c, Cells w q o c ∧ t.RepD w S c) ∧ r.RepD w S q (o + 5)
end
theorem Cells.same {w w' : World} {q o : Nat} {cs : List Value} (h : Cells w q o cs) (he : w'.heap[q]? = w.heap[q]?) : Cells w' q o cs := by
 intro i v hv
 have := h i v hv
 simp only [World.cell?] at this ⊢
 rw [he]
 exact this
mutual
theorem Tr.RepD.keep {w w' : World} {S S' : Nat → Prop} (hk : ∀ q, S q → w'.heap[q]? = w.heap[q]?) (hS : ∀ q, S q → S' q) : ∀ {t : Tr} {cs : List Value}, t.RepD w S cs → t.RepD w' S' cs
 | .mk n s nl l u, cs, ⟨h1, h2, lv, h3, h4⟩ => by
  refine ⟨h1, h2, lv, h3, ?_⟩
  rcases h4 with h4 | ⟨q, cap, h5, h6, h7, h8⟩
  ·exact .inl h4
  ·exact .inr ⟨q, cap, h5, h6, hS q h7, Trs.RepD.keep hk hS h7 h8⟩
theorem Trs.RepD.keep {w w' : World} {S S' : Nat → Prop} (hk : ∀ q, S q → w'.heap[q]? = w.heap[q]?) (hS : ∀ q, S q → S' q) {q : Nat} (hq : S q) : ∀ {l : Trs} {o : Nat}, l.RepD w S q o → l.RepD w' S' q o
 | .nil, _, _ => trivial
 | .cons t r, o, ⟨⟨c, h1, h2⟩, h3⟩ => ⟨⟨c, h1.same (hk q hq), Tr.RepD.keep hk hS h2⟩, Trs.RepD.keep hk hS hq h3⟩
end
theorem Tr.RepD.len {w : World} {S : Nat → Prop} {t : Tr} {cs : List Value} (h : t.RepD w S cs) : cs.length = 5 := by
 cases t with
 | mk n s nl l u => obtain ⟨_, _, _, rfl, _⟩ := h; rfl
theorem Tr.RepD.one {w : World} {S : Nat → Prop} {t : Tr} {cs : List Value} (h : t.RepD w S cs) : ∀ v ∈ cs, v.oneCell' = true := by
 cases t with
 | mk n s nl l u =>
  obtain ⟨_, _, lv, rfl, h3⟩ := h
  have e3 : lv.oneCell' = true := by rcases h3 with ⟨rfl, _⟩ | ⟨q, cap, rfl, _⟩ <;> rfl
  intro v hv
  simp only [List.mem_cons, List.not_mem_nil, or_false] at hv
  rcases hv with rfl | rfl | rfl | rfl | rfl <;> first | rfl | assumption
theorem Free.below {w w' : World} {B b o : Nat} (h : Free w b o) (hb : Below B w w') (hB : b < B) : Free w' b o :=
 ⟨by rw [hb.cell (p := ⟨b, o, none⟩) hB]; exact h.1, by rw [hb.frozen (p := ⟨b, o, none⟩) hB]; exact h.2⟩
end Go.Km
namespace Go.Km
open Go Go.RowKit
attribute [local irreducible] vc rO_ runG runS runD
def SF.kind : SF → Int
 | .mk kind _ _ _ _ _ _ _ => kind
def SF.df : SF → Int
 | .mk _ _ _ _ _ df _ _ => df
def SF.nul : SF → Int
 | .mk _ _ _ nul _ _ _ _ => nul
section
variable {P : Program} {E : Env} {w : World} {U : Nat}
end
end Go.Km
namespace Go.Km
open Go Go.RowKit
section
variable {P : Program} {E : Env}
end
end Go.Km
namespace Go.Km
open Go Go.RowKit
attribute [local irreducible] vc rO_ runG runS runD
abbrev FE := SF × Option FuncId
def SF.parts : SF → Option Operand → List (Nat × Operand)
 | .mk kind fr to nul tag df el _, x => [(0, .const (.int .i64 kind))] ++ (if fr = 0 then [] else [(1, .const (.int .i64 fr))]) ++ [(2, .const (.int .i64 to)), (3, .const (.int .i64 nul)), (4, .const (.int .i64 tag))] ++
   (if df = 0 then [] else [(5, .const (.int .i64 df))]) ++ (if el = 0 then [] else [(6, .const (.int .i64 el))]) ++ (match x with | none => [] | some x => [(7, x)])
def FVals (A : Act) (W : World) : List Nat → List FE → Prop
 | [], [] => True
 | s :: ss, f :: fs => (∃ cells : List Value, A.eval (.tmp s) = .agg cells.toArray ∧ f.1.Rep W W.heap.size cells) ∧ FVals A W ss fs
 | _, _ => False
theorem FVals.keep {A A' : Act} {W W' : World} (hW : Below W.heap.size W W') : ∀ {ss : List Nat} {l : List FE}, (∀ s ∈ ss, A'.eval (.tmp s) = A.eval (.tmp s)) → FVals A W ss l → FVals A' W' ss l
 | [], [], _, _ => trivial
 | s :: ss, f :: l, hs, ⟨⟨c, h1, h2⟩, h3⟩ => ⟨⟨c, by rw [hs s (by simp)]; exact h1, (h2.below hW).mono hW.size⟩, FVals.keep hW (fun s h => hs s (by simp [h])) h3⟩
 | [], _ :: _, _, h => h.elim
 | _ :: _, [], _, h => h.elim
section
variable {P : Program} {E : Env}
end
end Go.Km
namespace Go.Km
open Go Go.RowKit
attribute [local irreducible] vc rO_ runG runS runD
def Reps (W : World) (U : Nat) : List (List Value) → List FE → Prop
 | [], [] => True
 | c :: cs, f :: l => f.1.Rep W U c ∧ Reps W U cs l
 | _, _ => False
theorem Reps.len {W : World} {U : Nat} : ∀ {cs : List (List Value)} {l : List FE}, Reps W U cs l → cs.length = l.length ∧ ∀ c ∈ cs, c.length = 8
 | [], [], _ => ⟨rfl, by simp⟩
 | c :: cs, f :: l, ⟨h1, h2⟩ => by
  obtain ⟨h3, h4⟩ := Reps.len h2
  refine ⟨by simp [h3], fun x hx => ?_⟩
  rcases List.mem_cons.1 hx with rfl | hx
  ·exact h1.len
  ·exact h4 x hx
 | [], _ :: _, h => h.elim
 | _ :: _, [], h => h.elim
theorem Reps.below {W W' : World} {U U' : Nat} (hW : Below U W W') (hU : U ≤ U') : ∀ {cs : List (List Value)} {l : List FE}, Reps W U cs l → Reps W' U' cs l
 | [], [], _ => trivial
 | c :: cs, f :: l, ⟨h1, h2⟩ => ⟨(h1.below hW).mono hU, Reps.below hW hU h2⟩
 | [], _ :: _, h => h.elim
 | _ :: _, [], h => h.elim
theorem FVals.cells {A : Act} {W : World} : ∀ {ss : List Nat} {l : List FE}, FVals A W ss l → ∃ cs : List (List Value), (ss.map fun s => A.eval (.tmp s)) = cs.map (fun c => Value.agg c.toArray) ∧ Reps W W.heap.size cs l
 | [], [], _ => ⟨[], rfl, trivial⟩
 | s :: ss, f :: l, ⟨⟨c, h1, h2⟩, h3⟩ => by
  obtain ⟨cs, h4, h5⟩ := FVals.cells h3
  exact ⟨c :: cs, by simp only [List.map_cons, h1, h4], h2, h5⟩
 | [], _ :: _, h => h.elim
 | _ :: _, [], h => h.elim
section
variable {P : Program} {E : Env}
end
end Go.Km
namespace Go.Km
open Go Go.RowKit
attribute [local irreducible] vc rO_ runG runS runD
section
variable {P : Program} {E : Env} {w : World} {U : Nat}
end
end Go.Km
namespace Go.Km
open Go Go.RowKit
attribute [local irreducible] vc rO_ runG runS runD
end Go.Km
namespace Go.Km
open Go Go.RowKit
section
variable {P : Program} {a : Act} {w : World} {Q : Exit → Act → World → Prop} {ops : List Oper} {S : World → Prop}
end
attribute [local irreducible] vc rO_ runG runS runD
section
variable {P : Program} {E : Env}
end
end Go.Km
namespace Go.Km
open Go Go.RowKit
attribute [local irreducible] vc rO_ runG runS runD
section
variable {P : Program} {E : Env} {T : List (Nat × List UInt8) → Prop}
end
end Go.Km
namespace Go.Km
open Go Go.RowKit
attribute [local irreducible] vc rO_ runG runS runD
section
variable {P : Program} {E : Env}
end
end Go.Km
namespace Go.Km
open Go Go.RowKit Go.ChangeShapes Go.WideShapes Go.ChangeAt
structure Bulk {H : Type} (B : DataW H → Nat) (BA : List (DataW H) → Nat) : Prop where
 agg : ∀ l, B (.agg l) = BA l + 1
 slice : ∀ l r, B (.slice l r) = BA l + BA r + 1
 nil : BA [] = 0
 cons : ∀ d r, BA (d :: r) = B d + BA r
 pos : ∀ d, 1 ≤ B d
theorem Bulk.len {H : Type} {B : DataW H → Nat} {BA : List (DataW H) → Nat} (b : Bulk B BA) : ∀ l : List (DataW H), l.length ≤ BA l
 | [] => by simp
 | d :: r => by
  have h1 := b.len r
  have h2 := b.pos d
  rw [b.cons, List.length_cons]
  omega
section
variable {H : Type} {enc : TypeId × Value → H} {P : Program} {E : Env} {W : World} {sp : Nat → Bool} {held : Bool} {B : DataW H → Nat} {BA : List (DataW H) → Nat}
end
end Go.Km
namespace Go.Km
open Go Go.RowKit Go.ChangeShapes Go.WideShapes Go.ChangeAt
section
variable {H : Type} {enc : TypeId × Value → H} {P : Program} {E : Env} {B : DataW H → Nat} {BA : List (DataW H) → Nat}
end
end Go.Km
namespace Go.Km
open Go Go.RowKit
attribute [local irreducible] vc rO_ runG runS runD
section
variable {P : Program} {E : Env}
end
end Go.Km
namespace Go.Km
open Go Go.RowKit Go.ChangeShapes Go.WideShapes Go.ChangeAt
section
variable {H : Type} {enc : TypeId × Value → H} {P : Program} {E : Env}
end
attribute [local irreducible] vc rO_ runG runS runD
section
variable {P : Program} {E : Env}
end
end Go.Km
namespace Go.Km
open Go Go.RowKit
attribute [local irreducible] vc rO_ runG runS runD
section
variable {P : Program} {E : Env} {T : List (Nat × List UInt8) → Prop}
end
end Go.Km
namespace Go.Km
open Go Go.RowKit
attribute [local irreducible] vc rO_ runG runS runD
section
variable {P : Program} {E : Env} {T : List (Nat × List UInt8) → Prop}
end
end Go.Km
namespace Go.Km
open Go Go.RowKit Go.ChangeShapes Go.WideShapes Go.ChangeAt
section
variable {H : Type} {enc : TypeId × Value → H} {P : Program} {E : Env}
end
end Go.Km
namespace Go.Km
open Go Go.RowKit Go.ChangeShapes Go.WideShapes Go.ChangeAt
section
variable {H : Type} {enc : TypeId × Value → H} {P : Program} {E : Env}
theorem strRow {f : Func} {L : FuncId} {s : ChangeSpec} {apart : Bool} {tb : TypeId} (hp : f.params = #[E.tStr]) (hrt : f.resultTypes = #[tb]) (hub : P.underlying tb = some .bool) (hvars : s.vars = []) (hfn : ∀ d1 : DataW H, s.fn H [d1] = { results := [.lit (.bool true)], args := [d1] })
  (hl : laidOutB P = true) (hrS : P.readableRec E.tStr = true ∧ E.tStr < P.types.size) (hus : P.underlying E.tStr = some .string)
  {W : World} {base : Nat} {args : Array Value} {ds gs : List (DataW H)} {before : List MemPlace}
  (walk : ∀ l : List UInt8, CallsV P L #[.string ⟨l.toArray⟩] W fun v w' => v = .bool true ∧ Below W.heap.size W w')
  (hval : ∀ (j : Nat) t v, f.params[j]? = some t → args[j]? = some v → Value.okWide P W .any base t v) (hW : DataW.Whole enc P f.params.toList s.vars apart W args.toList ds gs before) :
  Calls P L args W fun e W' => ∃ v, e = .returned v ∧ s.post enc P f apart true false false W args v W' := by
 have hW' := hW
 obtain ⟨p, q, hA, hV, rfl, _, _⟩ := hW
 rw [hp] at hA hval
 obtain ⟨v1, vs1, d1, ds1, p1, q1, hargs, rfl, rfl, h1, r1⟩ := trodAll_cons hA
 obtain ⟨rfl, rfl, rfl⟩ := trodAll_nil r1
 obtain rfl : args = #[v1] := by cases args; simp_all
 obtain ⟨sv, rfl⟩ := okWide_string hus (hval 0 _ v1 rfl rfl)
 have hs : sv = ⟨sv.data.toList.toArray⟩ := by cases sv; simp
 have hw := (walk sv.data.toList).2
 rw [← hs] at hw
 refine hw.mono ?_
 rintro e W' ⟨v, rfl, rfl, hb⟩
 refine ⟨_, rfl, boolPost hW' hvars hl ?_ hb hrt hub (hfn _)⟩
 rw [hp]
 intro t ht
 simp only [List.mem_cons, List.not_mem_nil, or_false] at ht
 subst ht
 exact hrS
theorem i16Row {f : Func} {L : FuncId} {s : ChangeSpec} {apart : Bool} {tb tk : TypeId} (hp : f.params = #[tk]) (hrt : f.resultTypes = #[tb]) (hub : P.underlying tb = some .bool) (hvars : s.vars = []) (hfn : ∀ d1 : DataW H, s.fn H [d1] = { results := [.lit (.bool true)], args := [d1] })
  (hl : laidOutB P = true) (hrS : P.readableRec tk = true ∧ tk < P.types.size) (hus : P.underlying tk = some (.int .i16))
  {W : World} {base : Nat} {args : Array Value} {ds gs : List (DataW H)} {before : List MemPlace}
  (walk : ∀ x : Int, -1000000 ≤ x → x ≤ 1000000 → CallsV P L #[.int .i16 x] W fun v w' => v = .bool true ∧ Below W.heap.size W w')
  (hval : ∀ (j : Nat) t v, f.params[j]? = some t → args[j]? = some v → Value.okWide P W .any base t v) (hW : DataW.Whole enc P f.params.toList s.vars apart W args.toList ds gs before) :
  Calls P L args W fun e W' => ∃ v, e = .returned v ∧ s.post enc P f apart true false false W args v W' := by
 have hW' := hW
 obtain ⟨p, q, hA, hV, rfl, _, _⟩ := hW
 rw [hp] at hA hval
 obtain ⟨v1, vs1, d1, ds1, p1, q1, hargs, rfl, rfl, h1, r1⟩ := trodAll_cons hA
 obtain ⟨rfl, rfl, rfl⟩ := trodAll_nil r1
 obtain rfl : args = #[v1] := by cases args; simp_all
 obtain ⟨x, rfl, rfl, _, hwf⟩ := open_int hus (hval 0 _ v1 rfl rfl) h1
 have hx : -32768 ≤ x ∧ x ≤ 32767 := by simpa [Lit.wf, IntKind.min, IntKind.max, IntKind.signed, IntKind.bits] using hwf
 refine (walk x (by omega) (by omega)).2.mono ?_
 rintro e W' ⟨v, rfl, rfl, hb⟩
 refine ⟨_, rfl, boolPost hW' hvars hl ?_ hb hrt hub (hfn _)⟩
 rw [hp]
 intro t ht
 simp only [List.mem_cons, List.not_mem_nil, or_false] at ht
 subst ht
 exact hrS
theorem tab_keep {P : Program} {n : String} {k : IntKind} {zs : List Int} {g : Nat} (hg : P.globalNamed n = some g) (W W' : World) (h : Lib.TabIs P W n k zs) (hb : Below W.heap.size W W') : Lib.TabIs P W' n k zs := by
 unfold Lib.TabIs World.var? at *
 rw [hg] at h ⊢
 simp only [Option.bind_some] at h ⊢
 have hlt : g < W.heap.size := by
  rcases Nat.lt_or_ge g W.heap.size with h' | h'
  ·exact h'
  ·rw [Array.getElem?_eq_none h'] at h
   cases h
 rw [hb.block g hlt]
 exact h
theorem mem_ascii {l : List UInt8} (ha : ∀ b ∈ l, b.toNat < 128) (j : Nat) (b : UInt8) (h : (⟨l.toArray⟩ : ByteArray).data.toList[j]? = some b) : b.toNat < 128 := by
 refine ha b (List.mem_of_getElem? (i := j) ?_)
 simpa using h
theorem shelfY {C : SC} {ρ1 ρ2 : Go.Shelf.Ren} (L1 : Go.Proofs.Lays.n163 P ρ1) (X1 : Go.Proofs.Space.Extra P ρ1) (L2 : Go.Proofs.Lays.n159 P ρ2) (X2 : Go.Proofs.Builder.Extra P ρ2) (h1 : ρ1.f 163 = C.TRIMSP) (h2 : ρ2.f 159 = C.TOLOW) (en1 : Enters P C.TRIMSP) (en2 : Enters P C.TOLOW) :
  ShelfY P C (fun W => Lib.TabIs P W "strings.asciiSpace" .u8 Lib.asciiSpaceTab) where
 keep W W' h hb := tab_keep X1.gNamed W W' h hb
 trim l W hl ha hT := by
  refine ⟨en1, ?_⟩
  have := Go.Proofs.Any.strings_TrimSpace L1 X1 ⟨l.toArray⟩ W (by rw [size_ba]; omega) (fun j b h => mem_ascii ha j b h) hT
  rw [h1] at this
  refine this.mono ?_
  rintro e w' ⟨rfl, rfl⟩
  exact ⟨_, rfl, by simp, Lib.bytesWorld_below W _ _⟩
 lower l W hl ha := by
  refine ⟨en2, ?_⟩
  have := Go.Proofs.Any.strings_ToLower_ascii L2 X2 ⟨l.toArray⟩ W (by rw [size_ba]; omega) (fun j b h => mem_ascii ha j b h)
  rw [h2] at this
  refine this.mono ?_
  rintro e w' ⟨rfl, hb⟩
  exact ⟨_, rfl, by simp, hb⟩
theorem tab_of {a b : String × DataW Unit} {r : List (String × DataW Unit)} {g : Nat} {t e : TypeId} {W : World} (h : laidMet P (a :: b :: ("strings.asciiSpace", Lib.tabData .u8 Lib.asciiSpaceTab) :: r) W)
  (hg : P.globalNamed "strings.asciiSpace" = some g) (hty : (P.globals[g]?).map (·.type) = some t) (ht : P.underlying t = some (.array 256 e)) (he : P.underlying e = some (.int .u8)) (hce : P.cellsOf e = 1) (hct : P.cellsOf t = 256) :
  Lib.TabIs P W "strings.asciiSpace" .u8 Lib.asciiSpaceTab := Lib.tabIs_of_head hg hty ht he hce hct (laidMet.tail (laidMet.tail h))
end
end Go.Km
