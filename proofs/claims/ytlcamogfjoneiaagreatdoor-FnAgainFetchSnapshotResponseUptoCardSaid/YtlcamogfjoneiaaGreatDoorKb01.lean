/- Over any program: what the functions of kmsg, kbin and the spec compute. -/
import Derived.Test.YtlcamogfjoneiaaGreatDoorKb00
import Derived.Deep.AppendSrc
import Derived.Great.FillDense
import Derived.OrdersHeld
import Derived.IntWalk
set_option maxHeartbeats 4000000
set_option linter.unusedSimpArgs false
set_option linter.unusedVariables false
namespace Go.Km
open Go Go.RowKit
variable {B L U b cap k n o off s t ver:Nat} {E:Env} {F:FuncId} {G:Nat->Option Obj} {P:Program} {Q:Exit->Act->World->Prop} {S:Value->World->Prop} {a:Act} {ad:Option Addr} {cs xs:List Value} {e:TypeId} {fx:Bool} {l:List UInt8} {r:List Oper} {tags:List (Nat × List UInt8)} {v:Value} {w w':World} {x:Cx}
def c_sHas (E:Env):Code :=
 (sq [(rg [(oQ 2 (.box E.tFld (.tmp 0)) 0),
   (oQ 4 (.assign (.const (.bool false))) E.tO)]),
  (rg [(qF 5 E.tFld 2 1),
   (qL 6 5 E.tI),
   (qM 7 1 E.tI),
   (qB 8 .leq E.tI 6 7 E.tO),
   (qM 9 8 E.tO),
   (qD 10 (.fieldAddr E.tFld (.tmp 2) 2) 0 #[] (some (4,true))),
   (qD 11 (.load E.tI (.tmp 10)) E.tI #[] (some (4,true))),
   (qD 12 (.binOp .lss E.tI (.tmp 11) (.const (.int .i64 0)) E.tI) E.tO #[] (some (4,true))),
   (qD 13 (.move (.tmp 12)) E.tO #[] (some (4,true))),
   (qD 14 (.move (.tmp 1)) E.tI #[] (some (8,false))),
   (qD 15 (.fieldAddr E.tFld (.tmp 2) 2) 0 #[] (some (8,false))),
   (qD 16 (.load E.tI (.tmp 15)) E.tI #[] (some (8,false))),
   (qD 17 (.binOp .leq E.tI (.tmp 14) (.tmp 16) E.tI) E.tO #[] (some (8,false))),
   (qD 18 (.pick (.tmp 13) (.const (.bool true)) (.tmp 17)) E.tO #[] (some (4,true))),
   (oQ 19 (.pick (.tmp 9) (.tmp 18) (.const (.bool false))) E.tO),
   (qA 4 19 E.tO)]),
  .ret])
def c_sNull (E:Env):Code :=
 (sq [(rg [(oQ 3 (.box E.tFld (.tmp 0)) 0),
   (oQ 5 (.box E.tT (.tmp 2)) 0),
   (oQ 6 (.assign (.const (.bool false))) E.tO)]),
  (rg [(qF 7 E.tT 5 2),
   (qL 8 7 E.tO),
   (qM 9 8 E.tO),
   (qD 10 (.fieldAddr E.tFld (.tmp 3) 3) 0 #[] (some (2,true))),
   (qD 11 (.load E.tI (.tmp 10)) E.tI #[] (some (2,true))),
   (qD 12 (.binOp .geq E.tI (.tmp 11) (.const (.int .i64 0)) E.tI) E.tO #[] (some (2,true))),
   (oQ 13 (.pick (.tmp 9) (.tmp 12) (.const (.bool false))) E.tO),
   (qM 14 13 E.tO),
   (qD 15 (.move (.tmp 1)) E.tI #[] (some (7,true))),
   (qD 16 (.fieldAddr E.tFld (.tmp 3) 3) 0 #[] (some (7,true))),
   (qD 17 (.load E.tI (.tmp 16)) E.tI #[] (some (7,true))),
   (qD 18 (.binOp .geq E.tI (.tmp 15) (.tmp 17) E.tI) E.tO #[] (some (7,true))),
   (oQ 19 (.pick (.tmp 14) (.tmp 18) (.const (.bool false))) E.tO),
   (qA 6 19 E.tO)]),
  .ret])
def c_sWhole (E:Env):Code :=
 (sq [(rg [(oQ 2 (.assign (.const (.slice none 0 0))) E.tB)]),
  (rg [(qM 3 0 E.tB),
   (qM 4 0 E.tB),
   (qN 5 4 E.tB E.tI),
   (oQ 6 (.call { callee:=.builtin .min,args:=#[(.tmp 5),(.const (.int .i64 32767))],argTypes:=#[E.tI,E.tI] }) E.tI),
   (oQ 7 (.slice E.tB (.tmp 3) none (some (.tmp 6)) none) E.tB),
   (qA 2 7 E.tB)]),
  .ret])
def c_sThings (E:Env):Code :=
 (sq [(rg [(oQ 2 (.assign (.const (.slice none 0 0))) E.tS)]),
  (rg [(qM 3 0 E.tS),
   (qM 4 0 E.tS),
   (qN 5 4 E.tS E.tI),
   (oQ 6 (.call { callee:=.builtin .min,args:=#[(.tmp 5),(.const (.int .i64 32767))],argTypes:=#[E.tI,E.tI] }) E.tI),
   (oQ 7 (.slice E.tS (.tmp 3) none (some (.tmp 6)) none) E.tS),
   (qA 2 7 E.tS)]),
  .ret])
def c_sAt (E:Env):Code :=
 (sq [(rg [(oQ 2 (.box E.tT (.tmp 0)) 0),
   (oQ 4 (.alloc E.tT) 0)]),
  (sq [(rg [(qM 5 1 E.tI),
    (qF 6 E.tT 2 3),
    (qL 7 6 E.tS),
    (qN 8 7 E.tS E.tI),
    (qB 9 .lss E.tI 5 8 E.tO)]),
   (.cond (.tmp 9)
    (sq [(rg [(qF 10 E.tT 2 3),
      (qL 11 10 E.tS),
      (qM 12 1 E.tI),
      (oQ 13 (.indexAddr E.tS (.tmp 11) (.tmp 12)) 0),
      (qL 14 13 E.tT),
      (qS E.tT 4 14)]),
     .ret])
    .skip)]),
  (rg [(oQ 15 (.build E.tT #[]) E.tT),
   (qS E.tT 4 15)]),
  .ret])
def c_sUvar (E:Env):Code :=
 (sq [(rg [(oQ 2 (.assign (.const (.slice none 0 0))) E.tB)]),
  (rg [(oQ 3 (.assign (.const (.slice none 0 0))) E.tB)]),
  (.block 0 (.loop (sq [(sq [(rg [(qM 4 0 E.tU64),
       (oQ 5 (.binOp .gtr E.tU64 (.tmp 4) (.const (.int .u64 127)) E.tU64) E.tO)]),
      (.cond (.tmp 5)
       .skip
       (.exit 0))]),
     (.block 1 (sq [(rg [(qM 6 3 E.tB),
        (qM 7 0 E.tU64),
        (oQ 8 (.binOp .and E.tU64 (.tmp 7) (.const (.int .u64 127)) E.tU64) E.tU64),
        (oQ 9 (.convert E.tU64 E.tU8 (.tmp 8)) E.tU8),
        (oQ 10 (.binOp .or E.tU8 (.tmp 9) (.const (.int .u8 128)) E.tU8) E.tU8),
        (oQ 11 (.buildSlice E.tB 1 #[(0,(.tmp 10))]) E.tB),
        (oQ 12 (.call { callee:=.builtin .append,args:=#[(.tmp 6),(.tmp 11)],argTypes:=#[E.tB,E.tB] }) E.tB),
        (qA 3 12 E.tB)]),
       (rg [(qM 13 0 E.tU64),
        (oQ 14 (.binOp .shr E.tU64 (.tmp 13) (.const (.int .u64 7)) E.tUint) E.tU64),
        (qA 0 14 E.tU64)])]))]))),
  (rg [(qM 15 3 E.tB),
   (qM 16 0 E.tU64),
   (oQ 17 (.convert E.tU64 E.tU8 (.tmp 16)) E.tU8),
   (oQ 18 (.buildSlice E.tB 1 #[(0,(.tmp 17))]) E.tB),
   (oQ 19 (.call { callee:=.builtin .append,args:=#[(.tmp 15),(.tmp 18)],argTypes:=#[E.tB,E.tB] }) E.tB),
   (qA 2 19 E.tB)]),
  .ret])
def vD (E:Env):Code :=
 (sq [(rg [(oQ 4 (.assign (.const (.slice none 0 0))) E.tB)]),
  (rg [(oQ 5 (.assign (.const (.slice none 0 0))) E.tB)]),
  (sq [(rg [(qM 7 1 E.tI),
    (qK 8 .sub E.tI 7 1 E.tI),
    (qA 6 8 E.tI)]),
   (.block 0 (.loop (sq [(sq [(rg [(qM 9 6 E.tI),
        (qK 10 .geq E.tI 9 0 E.tO)]),
       (.cond (.tmp 10)
        .skip
        (.exit 0))]),
      (.block 1 (rg [(qM 13 5 E.tB),
        (qM 14 0 E.tI64),
        (qM 15 6 E.tI),
        (oQ 16 (.binOp .mul E.tI (.const (.int .i64 8)) (.tmp 15) E.tI) E.tI),
        (oQ 17 (.binOp .shr E.tI64 (.tmp 14) (.tmp 16) E.tI) E.tI64),
        (oQ 18 (.convert E.tI64 E.tU8 (.tmp 17)) E.tU8),
        (oQ 19 (.buildSlice E.tB 1 #[(0,(.tmp 18))]) E.tB),
        (oQ 20 (.call { callee:=.builtin .append,args:=#[(.tmp 13),(.tmp 19)],argTypes:=#[E.tB,E.tB] }) E.tB),
        (qA 5 20 E.tB)])),
      (rg [(qM 11 6 E.tI),
       (qK 12 .sub E.tI 11 1 E.tI),
       (qA 6 12 E.tI)])])))]),
  (rg [(qM 21 5 E.tB),
   (qA 4 21 E.tB)]),
  .ret])
def c_sWidth (E:Env):Code :=
 (sq [(rg [(oQ 2 (.assign (.const (.int .i64 0))) E.tI)]),
  (sq [(rg [(qM 3 0 E.tI)]),
   (.block 0 (sq [(rg [(qK 5 .eql E.tI 3 1 E.tO),
      (qA 4 5 E.tO)]),
     (.cond (.tmp 4)
      (sq [(rg [(oQ 2 (.assign (.const (.int .i64 1))) E.tI)]),
       .ret])
      (sq [(sq [(rg [(qK 7 .eql E.tI 3 2 E.tO),
         (qA 6 7 E.tO)]),
        (.cond (.tmp 6)
         .skip
         (rg [(qK 8 .eql E.tI 3 5 E.tO),
          (qA 6 8 E.tO)]))]),
       (.cond (.tmp 6)
        (sq [(rg [(oQ 2 (.assign (.const (.int .i64 2))) E.tI)]),
         .ret])
        (sq [(rg [(qK 10 .eql E.tI 3 3 E.tO),
          (qA 9 10 E.tO)]),
         (.cond (.tmp 9)
          (sq [(rg [(oQ 2 (.assign (.const (.int .i64 4))) E.tI)]),
           .ret])
          .skip)]))]))]))]),
  (rg [(oQ 2 (.assign (.const (.int .i64 8))) E.tI)]),
  .ret])
def wY (E:Env):Code :=
 (sq [(rg [(oQ 8 (.assign (.const (.slice none 0 0))) E.tB)]),
  (.block 0 (sq [(rg [(qM 10 0 E.tO),
     (qM 11 10 E.tO),
     (qD 12 (.move (.tmp 1)) E.tO #[] (some (1,true))),
     (oQ 13 (.pick (.tmp 11) (.tmp 12) (.const (.bool false))) E.tO),
     (qA 9 13 E.tO)]),
    (.cond (.tmp 9)
     (sq [(rg [(oQ 14 (.buildSlice E.tB 1 #[(0,(.const (.int .u8 0)))]) E.tB),
       (qA 8 14 E.tB)]),
      .ret])
     (sq [(rg [(qM 16 0 E.tO),
       (qA 15 16 E.tO)]),
      (.cond (.tmp 15)
       (sq [(rg [(qM 17 2 E.tI),
         (oQ 18 (.convert E.tI E.tU64 (.tmp 17)) E.tU64),
         (oQ 19 (.binOp .add E.tU64 (.tmp 18) (.const (.int .u64 1)) E.tU64) E.tU64),
         (oQ 20 (qC E.sUvar #[(.tmp 19)] #[E.tU64]) E.tB),
         (qA 8 20 E.tB)]),
        .ret])
       (sq [(rg [(qM 22 1 E.tO),
         (qA 21 22 E.tO)]),
        (.cond (.tmp 21)
         (sq [(rg [(qM 23 3 E.tI),
           (oQ 24 (qC E.sFixed #[(.const (.int .i64 (-1))),(.tmp 23)] #[E.tI64,E.tI]) E.tB),
           (qA 8 24 E.tB)]),
          .ret])
         .skip)]))]))])),
  (rg [(qM 25 2 E.tI),
   (qM 26 3 E.tI),
   (oQ 27 (qC E.sFixed #[(.tmp 25),(.tmp 26)] #[E.tI64,E.tI]) E.tB),
   (qA 8 27 E.tB)]),
  .ret])
def c_sValue (E:Env):Code :=
 (sq [(rg [(oQ 11 (.box E.tT (.tmp 5)) 0),
   (oQ 12 (.assign (.const (.slice none 0 0))) E.tB)]),
  (sq [(rg [(qM 16 0 E.tI)]),
   (.block 0 (sq [(rg [(qK 18 .eql E.tI 16 0 E.tO),
      (qA 17 18 E.tO)]),
     (.cond (.tmp 17)
      (sq [(rg [(qF 19 E.tT 11 0),
        (qL 20 19 E.tI64),
        (qK 21 .and E.tI64 20 1 E.tI64),
        (oQ 22 (.convert E.tI64 E.tU8 (.tmp 21)) E.tU8),
        (oQ 23 (.buildSlice E.tB 1 #[(0,(.tmp 22))]) E.tB),
        (qA 12 23 E.tB)]),
       .ret])
      (sq [(rg [(qK 25 .eql E.tI 16 7 E.tO),
        (qA 24 25 E.tO)]),
       (.cond (.tmp 24)
        (sq [(rg [(oQ 26 (.makeSlice E.tB (.const (.int .i64 16)) (.const (.int .i64 16))) E.tB),
          (qA 13 26 E.tB)]),
         (rg [(qM 27 13 E.tB),
          (qF 28 E.tT 11 1),
          (qL 29 28 E.tB),
          (oQ 30 (.call { callee:=.builtin .copy,args:=#[(.tmp 27),(.tmp 29)],argTypes:=#[E.tB,E.tB] }) E.tI)]),
         (rg [(qM 31 13 E.tB),
          (qA 12 31 E.tB)]),
         .ret])
        (sq [(rg [(qK 33 .eql E.tI 16 8 E.tO),
          (qA 32 33 E.tO)]),
         (.cond (.tmp 32)
          (sq [(rg [(qF 34 E.tT 11 1),
            (qL 35 34 E.tB),
            (oQ 36 (qC E.sWhole #[(.tmp 35)] #[E.tB]) E.tB),
            (qA 14 36 E.tB)]),
           (sq [(rg [(qM 37 2 E.tO)]),
            (.cond (.tmp 37)
             (rg [(oQ 14 (.assign (.const (.slice none 0 0))) E.tB)])
             .skip)]),
           (rg [(qM 38 4 E.tO),
            (qM 39 2 E.tO),
            (qM 40 14 E.tB),
            (qN 41 40 E.tB E.tI),
            (oQ 42 (qC E.sCounted #[(.tmp 38),(.tmp 39),(.tmp 41),(.const (.int .i64 2))] #[E.tO,E.tO,E.tI,E.tI]) E.tB),
            (qM 43 14 E.tB),
            (oQ 44 (.call { callee:=.builtin .append,args:=#[(.tmp 42),(.tmp 43)],argTypes:=#[E.tB,E.tB] }) E.tB),
            (qA 12 44 E.tB)]),
           .ret])
          (sq [(rg [(qK 46 .eql E.tI 16 9 E.tO),
            (qA 45 46 E.tO)]),
           (.cond (.tmp 45)
            (sq [(rg [(qF 47 E.tT 11 1),
              (qL 48 47 E.tB),
              (oQ 49 (qC E.sWhole #[(.tmp 48)] #[E.tB]) E.tB),
              (qA 15 49 E.tB)]),
             (sq [(rg [(qM 50 2 E.tO)]),
              (.cond (.tmp 50)
               (rg [(oQ 15 (.assign (.const (.slice none 0 0))) E.tB)])
               .skip)]),
             (rg [(qM 51 4 E.tO),
              (qM 52 2 E.tO),
              (qM 53 15 E.tB),
              (qN 54 53 E.tB E.tI),
              (oQ 55 (qC E.sCounted #[(.tmp 51),(.tmp 52),(.tmp 54),(.const (.int .i64 4))] #[E.tO,E.tO,E.tI,E.tI]) E.tB),
              (qM 56 15 E.tB),
              (oQ 57 (.call { callee:=.builtin .append,args:=#[(.tmp 55),(.tmp 56)],argTypes:=#[E.tB,E.tB] }) E.tB),
              (qA 12 57 E.tB)]),
             .ret])
            (sq [(rg [(qK 59 .eql E.tI 16 10 E.tO),
              (qA 58 59 E.tO)]),
             (.cond (.tmp 58)
              (sq [(rg [(qM 60 1 E.tFlds),
                (qM 61 3 E.tI),
                (qM 62 4 E.tO),
                (qL 63 11 E.tT),
                (oQ 64 (qC E.sPart #[(.tmp 60),(.tmp 61),(.tmp 62),(.tmp 63)] #[E.tFlds,E.tI,E.tO,E.tT]) E.tB),
                (qA 12 64 E.tB)]),
               .ret])
              .skip)]))]))]))]))]))]),
  (rgd [(qF 65 E.tT 11 0),
   (qD 66 (.load E.tI64 (.tmp 65)) E.tI64 #[jD 0] none),
   (qM 67 0 E.tI),
   (qD 68 (qC E.sWidth #[(.tmp 67)] #[E.tI]) E.tI #[jD 2] none),
   (qD 69 (qC E.sFixed #[(.tmp 66),(.tmp 68)] #[E.tI64,E.tI]) E.tB #[jD 1,jD 3,jC 3] none),
   (qD 12 (.assign (.tmp 69)) E.tB #[jD 4,jC 4,jP 0,jP 1,jP 2,jP 3,jP 4] none)]),
  .ret])
def c_sField (E:Env):Code :=
 (sq [(rg [(oQ 4 (.box E.tFld (.tmp 0)) 0),
   (oQ 7 (.box E.tT (.tmp 3)) 0),
   (oQ 8 (.assign (.const (.slice none 0 0))) E.tB)]),
  (rg [(qL 13 4 E.tFld),
   (qM 14 1 E.tI),
   (qL 15 7 E.tT),
   (oQ 16 (qC E.sNull #[(.tmp 13),(.tmp 14),(.tmp 15)] #[E.tFld,E.tI,E.tT]) E.tO),
   (qA 9 16 E.tO)]),
  (sq [(rg [(qF 17 E.tFld 4 0),
    (qL 18 17 E.tI),
    (qK 19 .eql E.tI 18 11 E.tO)]),
   (.cond (.tmp 19)
    (sq [(rg [(qF 20 E.tT 7 3),
      (qL 21 20 E.tS),
      (oQ 22 (qC E.sThings #[(.tmp 21)] #[E.tS]) E.tS),
      (qA 10 22 E.tS)]),
     (sq [(rg [(qM 23 9 E.tO)]),
      (.cond (.tmp 23)
       (rg [(oQ 10 (.assign (.const (.slice none 0 0))) E.tS)])
       .skip)]),
     (rg [(qM 24 2 E.tO),
      (qM 25 9 E.tO),
      (qM 26 10 E.tS),
      (qN 27 26 E.tS E.tI),
      (oQ 28 (qC E.sCounted #[(.tmp 24),(.tmp 25),(.tmp 27),(.const (.int .i64 4))] #[E.tO,E.tO,E.tI,E.tI]) E.tB),
      (qA 11 28 E.tB)]),
     (sq [(rg [(qM 29 10 E.tS),
       (qN 30 29 E.tS E.tI),
       (oQ 31 (.move (.const (.int .i64 0))) E.tI)]),
      (.block 0 (.loop (sq [(rg [(qB 32 .lss E.tI 31 30 0)]),
         (.cond (.tmp 32)
          .skip
          (.exit 0)),
         (.block 1 (sq [(rg [(qM 33 31 E.tI),
            (qA 12 33 E.tI)]),
           (rgd [(qM 34 11 E.tB),
            (qF 35 E.tFld 4 6),
            (qD 36 (.load E.tI (.tmp 35)) E.tI #[jD 1] none),
            (qF 37 E.tFld 4 7),
            (qD 38 (.load E.tFlds (.tmp 37)) E.tFlds #[jD 3] none),
            (qM 39 1 E.tI),
            (qM 40 2 E.tO),
            (qM 41 10 E.tS),
            (qM 42 12 E.tI),
            (qD 43 (.indexAddr E.tS (.tmp 41) (.tmp 42)) 0 #[jD 7,jD 8] none),
            (qD 44 (.load E.tT (.tmp 43)) E.tT #[jD 9] none),
            (qD 45 (qC E.sValue #[(.tmp 36),(.tmp 38),(.const (.bool false)),(.tmp 39),(.tmp 40),(.tmp 44)] #[E.tI,E.tFlds,E.tO,E.tI,E.tO,E.tT]) E.tB #[jD 2,jD 4,jD 5,jD 6,jD 10] none),
            (qD 46 (.call { callee:=.builtin .append,args:=#[(.tmp 34),(.tmp 45)],argTypes:=#[E.tB,E.tB] }) E.tB #[jD 0,jD 11,jC 11] none),
            (qD 11 (.assign (.tmp 46)) E.tB #[jD 12,jC 12,jP 0,jP 1,jP 2,jP 3,jP 4,jP 5,jP 6,jP 7,jP 8,jP 9,jP 10,jP 11,jP 12] none)])])),
         (rg [(qK 47 .add E.tI 31 1 E.tI),
          (qM 31 47 E.tI)])])))]),
     (rg [(qM 48 11 E.tB),
      (qA 8 48 E.tB)]),
     .ret])
    .skip)]),
  (sq [(rg [(qF 49 E.tFld 4 0),
    (qL 50 49 E.tI),
    (qK 51 .eql E.tI 50 10 E.tO),
    (qM 52 51 E.tO),
    (qD 53 (.fieldAddr E.tFld (.tmp 4) 3) 0 #[] (some (3,true))),
    (qD 54 (.load E.tI (.tmp 53)) E.tI #[] (some (3,true))),
    (qD 55 (.binOp .geq E.tI (.tmp 54) (.const (.int .i64 0)) E.tI) E.tO #[] (some (3,true))),
    (oQ 56 (.pick (.tmp 52) (.tmp 55) (.const (.bool false))) E.tO)]),
   (.cond (.tmp 56)
    (sq [(sq [(rg [(qM 57 9 E.tO)]),
      (.cond (.tmp 57)
       (sq [(rg [(oQ 58 (qC E.sFixed #[(.const (.int .i64 (-1))),(.const (.int .i64 1))] #[E.tI64,E.tI]) E.tB),
         (qA 8 58 E.tB)]),
        .ret])
       .skip)]),
     (rgd [(oQ 59 (qC E.sFixed #[(.const (.int .i64 1)),(.const (.int .i64 1))] #[E.tI64,E.tI]) E.tB),
      (qF 60 E.tFld 4 7),
      (qD 61 (.load E.tFlds (.tmp 60)) E.tFlds #[jD 1] none),
      (qM 62 1 E.tI),
      (qM 63 2 E.tO),
      (qL 64 7 E.tT),
      (qD 65 (qC E.sPart #[(.tmp 61),(.tmp 62),(.tmp 63),(.tmp 64)] #[E.tFlds,E.tI,E.tO,E.tT]) E.tB #[jD 2,jD 3,jD 4,jD 5,jC 0] none),
      (qD 66 (.call { callee:=.builtin .append,args:=#[(.tmp 59),(.tmp 65)],argTypes:=#[E.tB,E.tB] }) E.tB #[jD 0,jD 6,jC 6] none),
      (qD 8 (.assign (.tmp 66)) E.tB #[jD 7,jC 7,jP 0,jP 1,jP 2,jP 3,jP 4,jP 5,jP 6,jP 7] none)]),
     .ret])
    .skip)]),
  (rg [(qF 67 E.tFld 4 0),
   (qL 68 67 E.tI),
   (qF 69 E.tFld 4 7),
   (qL 70 69 E.tFlds),
   (qM 71 9 E.tO),
   (qM 72 1 E.tI),
   (qM 73 2 E.tO),
   (qL 74 7 E.tT),
   (oQ 75 (qC E.sValue #[(.tmp 68),(.tmp 70),(.tmp 71),(.tmp 72),(.tmp 73),(.tmp 74)] #[E.tI,E.tFlds,E.tO,E.tI,E.tO,E.tT]) E.tB),
   (qA 8 75 E.tB)]),
  .ret])
def c_sUsual (E:Env):Code :=
 (sq [(rg [(oQ 2 (.box E.tFld (.tmp 0)) 0),
   (oQ 3 (.box E.tT (.tmp 1)) 0),
   (oQ 4 (.assign (.const (.bool false))) E.tO)]),
  (sq [(rg [(qF 9 E.tFld 2 0),
    (qL 10 9 E.tI)]),
   (.block 0 (sq [(rg [(qK 12 .eql E.tI 10 0 E.tO),
      (qA 11 12 E.tO)]),
     (.cond (.tmp 11)
      (sq [(rg [(qF 13 E.tT 3 0),
        (qL 14 13 E.tI64),
        (qK 15 .and E.tI64 14 1 E.tI64),
        (qF 16 E.tFld 2 5),
        (qL 17 16 E.tI64),
        (qB 18 .eql E.tI64 15 17 E.tO),
        (qA 4 18 E.tO)]),
       .ret])
      (sq [(rg [(qK 20 .eql E.tI 10 7 E.tO),
        (qA 19 20 E.tO)]),
       (.cond (.tmp 19)
        (sq [(sq [(rg [(qF 21 E.tT 3 1),
           (qL 22 21 E.tB),
           (qN 23 22 E.tB E.tI),
           (oQ 24 (.move (.const (.int .i64 0))) E.tI)]),
          (.block 1 (.loop (sq [(rg [(qB 25 .lss E.tI 24 23 0)]),
             (.cond (.tmp 25)
              .skip
              (.exit 1)),
             (.block 2 (sq [(rg [(qM 26 24 E.tI),
                (oQ 27 (.indexAddr E.tB (.tmp 22) (.tmp 24)) 0),
                (qL 28 27 E.tU8),
                (qA 5 26 E.tI),
                (qA 6 28 E.tU8)]),
               (rg [(qM 29 5 E.tI),
                (qK 30 .lss E.tI 29 16 E.tO),
                (qM 31 30 E.tO),
                (qD 32 (.move (.tmp 6)) E.tU8 #[] (some (2,true))),
                (qD 33 (.binOp .neq E.tU8 (.tmp 32) (.const (.int .u8 0)) E.tU8) E.tO #[] (some (2,true))),
                (oQ 34 (.pick (.tmp 31) (.tmp 33) (.const (.bool false))) E.tO)]),
               (.cond (.tmp 34)
                (sq [(rg [(oQ 4 (.assign (.const (.bool false))) E.tO)]),
                 .ret])
                .skip)])),
             (rg [(qK 35 .add E.tI 24 1 E.tI),
              (qM 24 35 E.tI)])])))]),
         (rg [(oQ 4 (.assign (.const (.bool true))) E.tO)]),
         .ret])
        (sq [(sq [(rg [(qK 37 .eql E.tI 10 8 E.tO),
           (qA 36 37 E.tO)]),
          (.cond (.tmp 36)
           .skip
           (rg [(qK 38 .eql E.tI 10 9 E.tO),
            (qA 36 38 E.tO)]))]),
         (.cond (.tmp 36)
          (sq [(sq [(rg [(qF 39 E.tFld 2 3),
             (qL 40 39 E.tI),
             (qK 41 .geq E.tI 40 0 E.tO)]),
            (.cond (.tmp 41)
             (sq [(rg [(qF 42 E.tT 3 2),
               (qL 43 42 E.tO),
               (qA 4 43 E.tO)]),
              .ret])
             .skip)]),
           (rg [(qF 44 E.tT 3 1),
            (qL 45 44 E.tB),
            (qN 46 45 E.tB E.tI),
            (qK 47 .eql E.tI 46 0 E.tO),
            (qA 4 47 E.tO)]),
           .ret])
          (sq [(rg [(qK 49 .eql E.tI 10 11 E.tO),
            (qA 48 49 E.tO)]),
           (.cond (.tmp 48)
            (sq [(rg [(qF 50 E.tT 3 3),
              (qL 51 50 E.tS),
              (qN 52 51 E.tS E.tI),
              (qK 53 .eql E.tI 52 0 E.tO),
              (qA 4 53 E.tO)]),
             .ret])
            (sq [(rg [(qK 55 .eql E.tI 10 10 E.tO),
              (qA 54 55 E.tO)]),
             (.cond (.tmp 54)
              (sq [(sq [(rg [(qF 56 E.tFld 2 7),
                 (qL 57 56 E.tFlds),
                 (qN 58 57 E.tFlds E.tI),
                 (oQ 59 (.move (.const (.int .i64 0))) E.tI)]),
                (.block 3 (.loop (sq [(rg [(qB 60 .lss E.tI 59 58 0)]),
                   (.cond (.tmp 60)
                    .skip
                    (.exit 3)),
                   (.block 4 (sq [(rg [(qM 61 59 E.tI),
                      (oQ 62 (.indexAddr E.tFlds (.tmp 57) (.tmp 59)) 0),
                      (qL 63 62 E.tFld),
                      (oQ 8 (.alloc E.tFld) 0),
                      (qA 7 61 E.tI),
                      (qS E.tFld 8 63)]),
                     (rgd [(qL 64 8 E.tFld),
                      (qL 65 3 E.tT),
                      (qM 66 7 E.tI),
                      (qD 67 (qC E.sAt #[(.tmp 65),(.tmp 66)] #[E.tT,E.tI]) E.tT #[jD 1,jD 2] none),
                      (qD 68 (qC E.sUsual #[(.tmp 64),(.tmp 67)] #[E.tFld,E.tT]) E.tO #[jD 0,jD 3,jC 3] none),
                      (qD 69 (.unOp .not E.tO (.tmp 68)) E.tO #[jD 4] none)]),
                     (.cond (.tmp 69)
                      (sq [(rg [(oQ 4 (.assign (.const (.bool false))) E.tO)]),
                       .ret])
                      .skip)])),
                   (rg [(qK 70 .add E.tI 59 1 E.tI),
                    (qM 59 70 E.tI)])])))]),
               (rg [(qF 71 E.tFld 2 7),
                (qL 72 71 E.tFlds),
                (qF 73 E.tT 3 4),
                (qL 74 73 E.tK),
                (oQ 75 (qC E.sUnknown #[(.tmp 72),(.tmp 74)] #[E.tFlds,E.tK]) E.tK),
                (qN 76 75 E.tK E.tI),
                (qK 77 .eql E.tI 76 0 E.tO),
                (qA 4 77 E.tO)]),
               .ret])
              .skip)]))]))]))]))]))]),
  (rgd [(qF 78 E.tT 3 0),
   (qD 79 (.load E.tI64 (.tmp 78)) E.tI64 #[jD 0] none),
   (qF 80 E.tFld 2 0),
   (qD 81 (.load E.tI (.tmp 80)) E.tI #[jD 2] none),
   (qD 82 (qC E.sWidth #[(.tmp 81)] #[E.tI]) E.tI #[jD 3] none),
   (qD 83 (qC E.sFixed #[(.tmp 79),(.tmp 82)] #[E.tI64,E.tI]) E.tB #[jD 1,jD 4,jC 4] none),
   (qF 84 E.tFld 2 5),
   (qD 85 (.load E.tI64 (.tmp 84)) E.tI64 #[jD 6] none),
   (qF 86 E.tFld 2 0),
   (qD 87 (.load E.tI (.tmp 86)) E.tI #[jD 8] none),
   (qD 88 (qC E.sWidth #[(.tmp 87)] #[E.tI]) E.tI #[jD 9,jC 5] none),
   (qD 89 (qC E.sFixed #[(.tmp 85),(.tmp 88)] #[E.tI64,E.tI]) E.tB #[jD 7,jD 10,jC 10] none),
   (qD 90 (qC E.sSame #[(.tmp 83),(.tmp 89)] #[E.tB,E.tB]) E.tO #[jD 5,jD 11,jC 11] none),
   (qD 4 (.assign (.tmp 90)) E.tO #[jD 12,jC 12,jP 0,jP 1,jP 2,jP 3,jP 4,jP 5,jP 6,jP 7,jP 8,jP 9,jP 10,jP 11,jP 12] none)]),
  .ret])
def c_sKnown (E:Env):Code :=
 (sq [(rg [(oQ 2 (.assign (.const (.int .u32 0))) E.tW)]),
  (rg [(oQ 3 (.assign (.const (.int .u32 0))) E.tW)]),
  (sq [(rg [(qM 6 0 E.tFlds),
    (qN 7 6 E.tFlds E.tI),
    (oQ 8 (.move (.const (.int .i64 0))) E.tI)]),
   (.block 0 (.loop (sq [(rg [(qB 9 .lss E.tI 8 7 0)]),
      (.cond (.tmp 9)
       .skip
       (.exit 0)),
      (.block 1 (sq [(rg [(oQ 10 (.indexAddr E.tFlds (.tmp 6) (.tmp 8)) 0),
         (qL 11 10 E.tFld),
         (oQ 5 (.alloc E.tFld) 0),
         (qS E.tFld 5 11)]),
        (rg [(qF 12 E.tFld 5 4),
         (qL 13 12 E.tI),
         (qK 14 .geq E.tI 13 0 E.tO)]),
        (.cond (.tmp 14)
         (rg [(qM 15 3 E.tW),
          (qF 16 E.tFld 5 4),
          (qL 17 16 E.tI),
          (oQ 18 (.convert E.tI E.tW (.tmp 17)) E.tW),
          (oQ 19 (.binOp .add E.tW (.tmp 18) (.const (.int .u32 1)) E.tW) E.tW),
          (oQ 20 (.call { callee:=.builtin .max,args:=#[(.tmp 15),(.tmp 19)],argTypes:=#[E.tW,E.tW] }) E.tW),
          (qA 3 20 E.tW)])
         .skip)])),
      (rg [(qK 21 .add E.tI 8 1 E.tI),
       (qM 8 21 E.tI)])])))]),
  (rg [(qM 22 3 E.tW),
   (qA 2 22 E.tW)]),
  .ret])
def c_sUnknown (E:Env):Code :=
 (sq [(rg [(oQ 4 (.assign (.const (.slice none 0 0))) E.tK)]),
  (rg [(qM 11 0 E.tFlds),
   (oQ 12 (qC E.sKnown #[(.tmp 11)] #[E.tFlds]) E.tW),
   (qA 5 12 E.tW)]),
  (rg [(oQ 6 (.assign (.const (.slice none 0 0))) E.tK)]),
  (sq [(rg [(qM 13 1 E.tK),
    (qM 14 1 E.tK),
    (qN 15 14 E.tK E.tI),
    (oQ 16 (.call { callee:=.builtin .min,args:=#[(.tmp 15),(.const (.int .i64 32767))],argTypes:=#[E.tI,E.tI] }) E.tI),
    (oQ 17 (.slice E.tK (.tmp 13) none (some (.tmp 16)) none) E.tK),
    (qN 18 17 E.tK E.tI),
    (oQ 19 (.move (.const (.int .i64 0))) E.tI)]),
   (.block 0 (.loop (sq [(rg [(qB 20 .lss E.tI 19 18 0)]),
      (.cond (.tmp 20)
       .skip
       (.exit 0)),
      (.block 1 (sq [(rg [(oQ 21 (.indexAddr E.tK (.tmp 17) (.tmp 19)) 0),
         (qL 22 21 E.tUnk),
         (oQ 8 (.alloc E.tUnk) 0),
         (qS E.tUnk 8 22)]),
        (rg [(oQ 9 (.assign (.const (.int .i64 0))) E.tI)]),
        (.block 2 (.loop (sq [(sq [(rgd [(qM 23 9 E.tI),
             (qM 24 6 E.tK),
             (qD 25 (.call { callee:=.builtin .len,args:=#[(.tmp 24)],argTypes:=#[E.tK] }) E.tI #[jD 1] none),
             (qD 26 (.binOp .lss E.tI (.tmp 23) (.tmp 25) E.tI) E.tO #[jD 0,jD 2] none),
             (qD 27 (.move (.tmp 26)) E.tO #[jD 3] none),
             (qD 28 (.move (.tmp 6)) E.tK #[jG 4] (some (4,true))),
             (qD 29 (.move (.tmp 9)) E.tI #[jG 4] (some (4,true))),
             (qD 30 (.indexAddr E.tK (.tmp 28) (.tmp 29)) 0 #[jD 5,jD 6,jG 4] (some (4,true))),
             (qD 31 (.fieldAddr E.tUnk (.tmp 30) 0) 0 #[jD 7,jG 4] (some (4,true))),
             (qD 32 (.load E.tW (.tmp 31)) E.tW #[jD 8,jG 4] (some (4,true))),
             (qD 33 (.fieldAddr E.tUnk (.tmp 8) 0) 0 #[jG 4] (some (4,true))),
             (qD 34 (.load E.tW (.tmp 33)) E.tW #[jD 10,jG 4] (some (4,true))),
             (qD 35 (.binOp .lss E.tW (.tmp 32) (.tmp 34) E.tW) E.tO #[jD 9,jD 11,jG 4] (some (4,true))),
             (qD 36 (.pick (.tmp 27) (.tmp 35) (.const (.bool false))) E.tO #[jD 4,jD 12] none)]),
            (.cond (.tmp 36)
             .skip
             (.exit 2))]),
           (.block 3 (rg [(qM 37 9 E.tI),
             (qK 38 .add E.tI 37 1 E.tI),
             (qA 9 38 E.tI)]))]))),
        (sq [(rgd [(qF 39 E.tUnk 8 0),
          (qD 40 (.load E.tW (.tmp 39)) E.tW #[jD 0] none),
          (qM 41 5 E.tW),
          (qD 42 (.binOp .lss E.tW (.tmp 40) (.tmp 41) E.tW) E.tO #[jD 1,jD 2] none),
          (qD 43 (.move (.tmp 42)) E.tO #[jD 3] none),
          (qD 44 (.move (.tmp 9)) E.tI #[jG 4] (some (4,false))),
          (qD 45 (.move (.tmp 6)) E.tK #[jG 4] (some (4,false))),
          (qD 46 (.call { callee:=.builtin .len,args:=#[(.tmp 45)],argTypes:=#[E.tK] }) E.tI #[jD 6,jG 4] (some (4,false))),
          (qD 47 (.binOp .lss E.tI (.tmp 44) (.tmp 46) E.tI) E.tO #[jD 5,jD 7,jG 4] (some (4,false))),
          (qD 48 (.move (.tmp 47)) E.tO #[jD 8,jC 4,jG 4] (some (4,false))),
          (qD 49 (.move (.tmp 6)) E.tK #[jG 9] (some (9,true))),
          (qD 50 (.move (.tmp 9)) E.tI #[jG 9] (some (9,true))),
          (qD 51 (.indexAddr E.tK (.tmp 49) (.tmp 50)) 0 #[jD 10,jD 11,jG 9] (some (9,true))),
          (qD 52 (.fieldAddr E.tUnk (.tmp 51) 0) 0 #[jD 12,jG 9] (some (9,true))),
          (qD 53 (.load E.tW (.tmp 52)) E.tW #[jD 13,jG 9] (some (9,true))),
          (qD 54 (.fieldAddr E.tUnk (.tmp 8) 0) 0 #[jG 9] (some (9,true))),
          (qD 55 (.load E.tW (.tmp 54)) E.tW #[jD 15,jG 9] (some (9,true))),
          (qD 56 (.binOp .eql E.tW (.tmp 53) (.tmp 55) E.tW) E.tO #[jD 14,jD 16,jG 9] (some (9,true))),
          (qD 57 (.pick (.tmp 48) (.tmp 56) (.const (.bool false))) E.tO #[jD 9,jD 17,jG 4] (some (4,false))),
          (qD 58 (.pick (.tmp 43) (.const (.bool true)) (.tmp 57)) E.tO #[jD 4,jD 18] none)]),
         (.cond (.tmp 58)
          (.exit 1)
          .skip)]),
        (rg [(qM 59 6 E.tK),
         (oQ 60 (.build E.tUnk #[]) E.tUnk),
         (oQ 61 (.buildSlice E.tK 1 #[(0,(.tmp 60))]) E.tK),
         (oQ 62 (.call { callee:=.builtin .append,args:=#[(.tmp 59),(.tmp 61)],argTypes:=#[E.tK,E.tK] }) E.tK),
         (qA 6 62 E.tK)]),
        (sq [(rg [(qM 63 6 E.tK),
          (qN 64 63 E.tK E.tI),
          (qK 65 .sub E.tI 64 1 E.tI),
          (qA 10 65 E.tI)]),
         (.block 4 (.loop (sq [(sq [(rg [(qM 66 10 E.tI),
              (qM 67 9 E.tI),
              (qB 68 .gtr E.tI 66 67 E.tO)]),
             (.cond (.tmp 68)
              .skip
              (.exit 4))]),
            (.block 5 (rg [(qM 71 6 E.tK),
              (qM 72 10 E.tI),
              (qM 73 6 E.tK),
              (qM 74 10 E.tI),
              (qK 75 .sub E.tI 74 1 E.tI),
              (oQ 76 (.indexAddr E.tK (.tmp 73) (.tmp 75)) 0),
              (qL 77 76 E.tUnk),
              (oQ 78 (.indexAddr E.tK (.tmp 71) (.tmp 72)) 0),
              (qS E.tUnk 78 77)])),
            (rg [(qM 69 10 E.tI),
             (qK 70 .sub E.tI 69 1 E.tI),
             (qA 10 70 E.tI)])])))]),
        (rg [(qM 79 6 E.tK),
         (qM 80 9 E.tI),
         (qL 81 8 E.tUnk),
         (oQ 82 (.indexAddr E.tK (.tmp 79) (.tmp 80)) 0),
         (qS E.tUnk 82 81)])])),
      (rg [(qK 83 .add E.tI 19 1 E.tI),
       (qM 19 83 E.tI)])])))]),
  (rg [(qM 84 6 E.tK),
   (qA 4 84 E.tK)]),
  .ret])
def k_sPartT (E:Env):Code :=
 (sq [(rg [(qM 59 57 E.tI),
    (oQ 60 (.indexAddr E.tFlds (.tmp 55) (.tmp 57)) 0),
    (qL 61 60 E.tFld),
    (oQ 16 (.alloc E.tFld) 0),
    (qA 15 59 E.tI),
    (qS E.tFld 16 61)]),
   (rgd [(qF 62 E.tFld 16 4),
    (qD 63 (.load E.tI (.tmp 62)) E.tI #[jD 0] none),
    (qM 64 14 E.tI),
    (qD 65 (.binOp .eql E.tI (.tmp 63) (.tmp 64) E.tI) E.tO #[jD 1,jD 2] none),
    (qD 66 (.move (.tmp 65)) E.tO #[jD 3] none),
    (qD 67 (.load E.tFld (.tmp 16)) E.tFld #[jG 4] (some (4,true))),
    (qD 68 (.load E.tT (.tmp 7)) E.tT #[jG 4] (some (4,true))),
    (qD 69 (.move (.tmp 15)) E.tI #[jG 4] (some (4,true))),
    (qD 70 (qC E.sAt #[(.tmp 68),(.tmp 69)] #[E.tT,E.tI]) E.tT #[jD 6,jD 7,jC 4,jG 4] (some (4,true))),
    (qD 71 (qC E.sUsual #[(.tmp 67),(.tmp 70)] #[E.tFld,E.tT]) E.tO #[jD 5,jD 8,jC 8,jG 4] (some (4,true))),
    (qD 72 (.unOp .not E.tO (.tmp 71)) E.tO #[jD 9,jG 4] (some (4,true))),
    (qD 73 (.pick (.tmp 66) (.tmp 72) (.const (.bool false))) E.tO #[jD 4,jD 10] none)]),
   (.cond (.tmp 73)
    (sq [(rgd [(qL 74 16 E.tFld),
      (qM 75 1 E.tI),
      (qM 76 2 E.tO),
      (qL 77 7 E.tT),
      (qM 78 15 E.tI),
      (qD 79 (qC E.sAt #[(.tmp 77),(.tmp 78)] #[E.tT,E.tI]) E.tT #[jD 3,jD 4] none),
      (qD 80 (qC E.sField #[(.tmp 74),(.tmp 75),(.tmp 76),(.tmp 79)] #[E.tFld,E.tI,E.tO,E.tT]) E.tB #[jD 0,jD 1,jD 2,jD 5,jC 5] none),
      (qD 17 (.assign (.tmp 80)) E.tB #[jD 6,jC 6,jP 0,jP 1,jP 2,jP 3,jP 4,jP 5,jP 6] none)]),
     (rg [(qM 81 10 E.tB),
      (qM 82 14 E.tI),
      (oQ 83 (.convert E.tI E.tU64 (.tmp 82)) E.tU64),
      (oQ 84 (qC E.sUvar #[(.tmp 83)] #[E.tU64]) E.tB),
      (oQ 85 (.call { callee:=.builtin .append,args:=#[(.tmp 81),(.tmp 84)],argTypes:=#[E.tB,E.tB] }) E.tB),
      (qM 86 17 E.tB),
      (qN 87 86 E.tB E.tI),
      (oQ 88 (.convert E.tI E.tU64 (.tmp 87)) E.tU64),
      (oQ 89 (qC E.sUvar #[(.tmp 88)] #[E.tU64]) E.tB),
      (oQ 90 (.call { callee:=.builtin .append,args:=#[(.tmp 85),(.tmp 89)],argTypes:=#[E.tB,E.tB] }) E.tB),
      (qM 91 17 E.tB),
      (oQ 92 (.call { callee:=.builtin .append,args:=#[(.tmp 90),(.tmp 91)],argTypes:=#[E.tB,E.tB] }) E.tB),
      (qA 10 92 E.tB)]),
     (rg [(qM 93 11 E.tI),
      (qK 94 .add E.tI 93 1 E.tI),
      (qA 11 94 E.tI)])])
    .skip)])
def l_sPartU (E:Env):List Code :=
  [(sq [(rg [(qM 97 0 E.tFlds),
    (qF 98 E.tT 7 4),
    (qL 99 98 E.tK),
    (oQ 100 (qC E.sUnknown #[(.tmp 97),(.tmp 99)] #[E.tFlds,E.tK]) E.tK),
    (qN 101 100 E.tK E.tI),
    (oQ 102 (.move (.const (.int .i64 0))) E.tI)]),
   (.block 6 (.loop (sq [(rg [(qB 103 .lss E.tI 102 101 0)]),
      (.cond (.tmp 103)
       .skip
       (.exit 6)),
      (.block 7 (sq [(rg [(oQ 104 (.indexAddr E.tK (.tmp 100) (.tmp 102)) 0),
         (qL 105 104 E.tUnk),
         (oQ 19 (.alloc E.tUnk) 0),
         (qS E.tUnk 19 105)]),
        (rg [(qF 106 E.tUnk 19 1),
         (qL 107 106 E.tB),
         (oQ 108 (qC E.sWhole #[(.tmp 107)] #[E.tB]) E.tB),
         (qA 20 108 E.tB)]),
        (rg [(qM 109 10 E.tB),
         (qF 110 E.tUnk 19 0),
         (qL 111 110 E.tW),
         (oQ 112 (.convert E.tW E.tU64 (.tmp 111)) E.tU64),
         (oQ 113 (qC E.sUvar #[(.tmp 112)] #[E.tU64]) E.tB),
         (oQ 114 (.call { callee:=.builtin .append,args:=#[(.tmp 109),(.tmp 113)],argTypes:=#[E.tB,E.tB] }) E.tB),
         (qM 115 20 E.tB),
         (qN 116 115 E.tB E.tI),
         (oQ 117 (.convert E.tI E.tU64 (.tmp 116)) E.tU64),
         (oQ 118 (qC E.sUvar #[(.tmp 117)] #[E.tU64]) E.tB),
         (oQ 119 (.call { callee:=.builtin .append,args:=#[(.tmp 114),(.tmp 118)],argTypes:=#[E.tB,E.tB] }) E.tB),
         (qM 120 20 E.tB),
         (oQ 121 (.call { callee:=.builtin .append,args:=#[(.tmp 119),(.tmp 120)],argTypes:=#[E.tB,E.tB] }) E.tB),
         (qA 10 121 E.tB)]),
        (rg [(qM 122 11 E.tI),
         (qK 123 .add E.tI 122 1 E.tI),
         (qA 11 123 E.tI)])])),
      (rg [(qK 124 .add E.tI 102 1 E.tI),
       (qM 102 124 E.tI)])])))]),
  (rg [(qM 125 9 E.tB),
   (qM 126 11 E.tI),
   (oQ 127 (.convert E.tI E.tU64 (.tmp 126)) E.tU64),
   (oQ 128 (qC E.sUvar #[(.tmp 127)] #[E.tU64]) E.tB),
   (oQ 129 (.call { callee:=.builtin .append,args:=#[(.tmp 125),(.tmp 128)],argTypes:=#[E.tB,E.tB] }) E.tB),
   (qM 130 10 E.tB),
   (oQ 131 (.call { callee:=.builtin .append,args:=#[(.tmp 129),(.tmp 130)],argTypes:=#[E.tB,E.tB] }) E.tB),
   (qA 8 131 E.tB)]),
  .ret]
def l_sPartM (E:Env):List Code :=
  (sq [(rg [(qM 46 2 E.tO),
    (oQ 47 (.unOp .not E.tO (.tmp 46)) E.tO)]),
   (.cond (.tmp 47)
    (sq [(rg [(qM 48 9 E.tB),
      (qA 8 48 E.tB)]),
     .ret])
    .skip)]) ::
  (sq [(rg [(qM 49 0 E.tFlds),
    (oQ 50 (qC E.sKnown #[(.tmp 49)] #[E.tFlds]) E.tW),
    (oQ 51 (.convert E.tW E.tI (.tmp 50)) E.tI),
    (oQ 52 (.move (.const (.int .i64 0))) E.tI)]),
   (.block 2 (.loop (sq [(rg [(qB 53 .lss E.tI 52 51 E.tO)]),
      (.cond (.tmp 53)
       .skip
       (.exit 2)),
      (.block 3 (sq [(rg [(qM 54 52 E.tI),
         (qA 14 54 E.tI)]),
        (rg [(qM 55 0 E.tFlds),
         (qN 56 55 E.tFlds E.tI),
         (oQ 57 (.move (.const (.int .i64 0))) E.tI)]),
        (.block 4 (.loop (sq [(rg [(qB 58 .lss E.tI 57 56 0)]),
           (.cond (.tmp 58)
            .skip
            (.exit 4)),
           (.block 5 (k_sPartT E)),
           (rg [(qK 95 .add E.tI 57 1 E.tI),
            (qM 57 95 E.tI)])])))])),
      (rg [(qK 96 .add E.tI 52 1 E.tI),
       (qM 52 96 E.tI)])])))])::l_sPartU E
def c_sPart (E:Env):Code :=
 (sq ((rg [(oQ 7 (.box E.tT (.tmp 3)) 0),
   (oQ 8 (.assign (.const (.slice none 0 0))) E.tB)]) ::
  (rg [(oQ 9 (.assign (.const (.slice none 0 0))) E.tB),
   (oQ 10 (.assign (.const (.slice none 0 0))) E.tB)]) ::
  (rg [(oQ 11 (.assign (.const (.int .i64 0))) E.tI)]) ::
  (sq [(rg [(qM 21 0 E.tFlds),
    (qN 22 21 E.tFlds E.tI),
    (oQ 23 (.move (.const (.int .i64 0))) E.tI)]),
   (.block 0 (.loop (sq [(rg [(qB 24 .lss E.tI 23 22 0)]),
      (.cond (.tmp 24)
       .skip
       (.exit 0)),
      (.block 1 (sq [(rg [(qM 25 23 E.tI),
         (oQ 26 (.indexAddr E.tFlds (.tmp 21) (.tmp 23)) 0),
         (qL 27 26 E.tFld),
         (oQ 13 (.alloc E.tFld) 0),
         (qA 12 25 E.tI),
         (qS E.tFld 13 27)]),
        (rg [(qF 28 E.tFld 13 4),
         (qL 29 28 E.tI),
         (qK 30 .lss E.tI 29 0 E.tO),
         (qM 31 30 E.tO),
         (qD 32 (.load E.tFld (.tmp 13)) E.tFld #[] (some (3,true))),
         (qD 33 (.move (.tmp 1)) E.tI #[] (some (3,true))),
         (qD 34 (qC E.sHas #[(.tmp 32),(.tmp 33)] #[E.tFld,E.tI]) E.tO #[] (some (3,true))),
         (oQ 35 (.pick (.tmp 31) (.tmp 34) (.const (.bool false))) E.tO)]),
        (.cond (.tmp 35)
         (rgd [(qM 36 9 E.tB),
          (qL 37 13 E.tFld),
          (qM 38 1 E.tI),
          (qM 39 2 E.tO),
          (qL 40 7 E.tT),
          (qM 41 12 E.tI),
          (qD 42 (qC E.sAt #[(.tmp 40),(.tmp 41)] #[E.tT,E.tI]) E.tT #[jD 4,jD 5] none),
          (qD 43 (qC E.sField #[(.tmp 37),(.tmp 38),(.tmp 39),(.tmp 42)] #[E.tFld,E.tI,E.tO,E.tT]) E.tB #[jD 1,jD 2,jD 3,jD 6,jC 6] none),
          (qD 44 (.call { callee:=.builtin .append,args:=#[(.tmp 36),(.tmp 43)],argTypes:=#[E.tB,E.tB] }) E.tB #[jD 0,jD 7,jC 7] none),
          (qD 9 (.assign (.tmp 44)) E.tB #[jD 8,jC 8,jP 0,jP 1,jP 2,jP 3,jP 4,jP 5,jP 6,jP 7,jP 8] none)])
         .skip)])),
      (rg [(qK 45 .add E.tI 23 1 E.tI),
       (qM 23 45 E.tI)])])))])::l_sPartM E))
def c_sDefault (E:Env):Code :=
 (sq [(rg [(oQ 2 (.alloc E.tT) 0)]),
  (rg [(oQ 3 (.alloc E.tT) 0)]),
  (sq [(rg [(qM 7 0 E.tFlds),
    (qN 8 7 E.tFlds E.tI),
    (oQ 9 (.move (.const (.int .i64 0))) E.tI)]),
   (.block 0 (.loop (sq [(rg [(qB 10 .lss E.tI 9 8 0)]),
      (.cond (.tmp 10)
       .skip
       (.exit 0)),
      (.block 1 (sq [(rg [(oQ 11 (.indexAddr E.tFlds (.tmp 7) (.tmp 9)) 0),
         (qL 12 11 E.tFld),
         (oQ 5 (.alloc E.tFld) 0),
         (qS E.tFld 5 12)]),
        (rg [(qF 13 E.tFld 5 5),
         (qL 14 13 E.tI64),
         (qF 15 E.tFld 5 3),
         (qL 16 15 E.tI),
         (qK 17 .geq E.tI 16 0 E.tO),
         (oQ 18 (.build E.tT #[(0,(.tmp 14)),(2,(.tmp 17))]) E.tT),
         (oQ 6 (.alloc E.tT) 0),
         (qS E.tT 6 18)]),
        (sq [(rg [(qF 19 E.tFld 5 0),
          (qL 20 19 E.tI),
          (qK 21 .eql E.tI 20 10 E.tO)]),
         (.cond (.tmp 21)
          (rg [(qF 22 E.tFld 5 7),
           (qL 23 22 E.tFlds),
           (oQ 24 (qC E.sDefault #[(.tmp 23)] #[E.tFlds]) E.tT),
           (oQ 25 (.field E.tT (.tmp 24) 3) E.tS),
           (qF 26 E.tT 6 3),
           (qS E.tS 26 25)])
          .skip)]),
        (rg [(qF 27 E.tT 3 3),
         (qL 28 27 E.tS),
         (qL 29 6 E.tT),
         (oQ 30 (.buildSlice E.tS 1 #[(0,(.tmp 29))]) E.tS),
         (oQ 31 (.call { callee:=.builtin .append,args:=#[(.tmp 28),(.tmp 30)],argTypes:=#[E.tS,E.tS] }) E.tS),
         (qF 32 E.tT 3 3),
         (qS E.tS 32 31)])])),
      (rg [(qK 33 .add E.tI 9 1 E.tI),
       (qM 9 33 E.tI)])])))]),
  (rg [(qL 34 3 E.tT),
   (qS E.tT 2 34)]),
  .ret])
def c_sWrite (E:Env):Code :=
 (sq [(rg [(oQ 3 (.box E.tMsg (.tmp 0)) 0),
   (oQ 5 (.box E.tT (.tmp 2)) 0),
   (oQ 6 (.assign (.const (.slice none 0 0))) E.tB)]),
  (rg [(qF 7 E.tMsg 3 0),
   (qL 8 7 E.tFlds),
   (qM 9 1 E.tI),
   (qF 10 E.tMsg 3 1),
   (qL 11 10 E.tI),
   (qK 12 .geq E.tI 11 0 E.tO),
   (qM 13 12 E.tO),
   (qD 14 (.move (.tmp 1)) E.tI #[] (some (6,true))),
   (qD 15 (.fieldAddr E.tMsg (.tmp 3) 1) 0 #[] (some (6,true))),
   (qD 16 (.load E.tI (.tmp 15)) E.tI #[] (some (6,true))),
   (qD 17 (.binOp .geq E.tI (.tmp 14) (.tmp 16) E.tI) E.tO #[] (some (6,true))),
   (oQ 18 (.pick (.tmp 13) (.tmp 17) (.const (.bool false))) E.tO),
   (qL 19 5 E.tT),
   (oQ 20 (qC E.sPart #[(.tmp 8),(.tmp 9),(.tmp 18),(.tmp 19)] #[E.tFlds,E.tI,E.tO,E.tT]) E.tB),
   (qA 6 20 E.tB)]),
  .ret])
def gW (E:Env):Code :=
 (sq [(rg [(oQ 4 (.assign (.const (.bool false))) E.tO)]),
  (sq [(rg [(qM 6 0 E.tB),
    (qN 7 6 E.tB E.tI),
    (qM 8 1 E.tB),
    (qN 9 8 E.tB E.tI),
    (qB 10 .neq E.tI 7 9 E.tO)]),
   (.cond (.tmp 10)
    (sq [(rg [(oQ 4 (.assign (.const (.bool false))) E.tO)]),
     .ret])
    .skip)]),
  (sq [(rg [(qM 11 0 E.tB),
    (qN 12 11 E.tB E.tI),
    (oQ 13 (.move (.const (.int .i64 0))) E.tI)]),
   (.block 0 (.loop (sq [(rg [(qB 14 .lss E.tI 13 12 0)]),
      (.cond (.tmp 14)
       .skip
       (.exit 0)),
      (.block 1 (sq [(rg [(qM 15 13 E.tI),
         (qA 5 15 E.tI)]),
        (rgd [(qM 16 0 E.tB),
         (qM 17 5 E.tI),
         (qD 18 (.indexAddr E.tB (.tmp 16) (.tmp 17)) 0 #[jD 0,jD 1] none),
         (qD 19 (.load E.tU8 (.tmp 18)) E.tU8 #[jD 2] none),
         (qM 20 1 E.tB),
         (qM 21 5 E.tI),
         (qD 22 (.indexAddr E.tB (.tmp 20) (.tmp 21)) 0 #[jD 4,jD 5] none),
         (qD 23 (.load E.tU8 (.tmp 22)) E.tU8 #[jD 6] none),
         (qD 24 (.binOp .neq E.tU8 (.tmp 19) (.tmp 23) E.tU8) E.tO #[jD 3,jD 7] none)]),
        (.cond (.tmp 24)
         (sq [(rg [(oQ 4 (.assign (.const (.bool false))) E.tO)]),
          .ret])
         .skip)])),
      (rg [(qK 25 .add E.tI 13 1 E.tI),
       (qM 13 25 E.tI)])])))]),
  (rg [(oQ 4 (.assign (.const (.bool true))) E.tO)]),
  .ret])
def y3 (E:Env):Code :=
 (sq [(rg [(oQ 4 (.assign (.const (.int .i64 0))) E.tI)]),
  (rg [(qM 5 0 E.tU8),
   (oQ 6 (.convert E.tU8 E.tI (.tmp 5)) E.tI),
   (qM 7 1 E.tI),
   (qK 8 .add E.tI 7 1 E.tI),
   (qB 9 .rem E.tI 6 8 E.tI),
   (qA 4 9 E.tI)]),
  .ret])
inductive D where
 | int (n:Int)
 | bytes (o:Option (List UInt8))
 | list (o:Option (List D))
 | obj (l:List D) (tags:List (Nat × List UInt8))
 deriving Inhabited
def bv (b:UInt8):Value:=.int .u8 b.toNat
def be:Nat->Int->List UInt8
 | 0,_=>[]
 | k+1,n=>UInt8.ofNat ((n.fdiv (256 ^ k)) % 256).toNat::be k n
theorem qO:∀ (k:Nat) (n:Int),(be k n).length=k
 | 0,_=>rfl
 | k+1,n=>by simp[be,qO k n]
def uvF:Nat->Nat->List UInt8
 | 0,n=>[UInt8.ofNat n]
 | f+1,n=>if n<128 then [UInt8.ofNat n] else UInt8.ofNat (n % 128+128)::uvF f (n / 128)
def uvar (n:Nat):List UInt8:=uvF 9 n
def big:Nat:=2147483000
def Scal.wr:Scal->Int->List UInt8
 | .bool,n=>[if n != 0 then 1 else 0]
 | .i8,n=>be 1 n
 | .i16,n | .u16,n=>be 2 n
 | .i32,n=>be 4 n
 | .i64,n=>be 8 n
 | .f64,n=>be 8 n.toNat
def ze (fx:Bool) (l:List UInt8):List UInt8:=(if fx then uvar (l.length+1) else be 2 l.length)++l
def xV (fx:Bool):Option (List UInt8)->List UInt8
 | none=>if fx then [0] else be 2 (-1)
 | some l=>ze fx l
def xn (fx:Bool) (l:List UInt8):List UInt8:=(if fx then uvar (l.length+1) else be 4 l.length)++l
def xz (fx:Bool):Option (List UInt8)->List UInt8
 | none=>if fx then [0] else be 4 (-1)
 | some l=>xn fx l
def zu (fx:Bool) (n:Nat):List UInt8:=if fx then uvar (n+1) else be 4 n
def jl (fx:Bool):List UInt8:=if fx then [0] else be 4 (-1)
def qV (x:Nat × List UInt8):List UInt8:=uvar x.1++uvar x.2.length++x.2
def xU (l:List (Nat × List UInt8)):List UInt8:=uvar l.length++(l.map qV).flatten
def Scal.ok:Scal->Int->Prop
 | .bool,n=>n=0\/n=1
 | .i8,n=>-128<=n/\n<=127
 | .i16,n=>-32768<=n/\n<=32767
 | .u16,n=>0<=n/\n<=65535
 | .i32,n=>-2147483648<=n/\n<=2147483647
 | .i64,n=>-9223372036854775808<=n/\n<=9223372036854775807
 | .f64,n=>0<=n/\n<18446744073709551616
def gf (tags:List (Nat × List UInt8)):Prop:=tags.Pairwise (fun x y=>x.1<y.1)/\∀ x ∈ tags,x.1<4294967296
def Ver.has (ver:Nat):Ver->Bool
 | .tag _ _=>false
 | .all=>true
 | .ge n=>decide (n<=ver)
 | .btw n m=>decide (n<=ver)&&decide (ver<=m)
def qs (k:Nat) (v:List UInt8):List (Nat × List UInt8)->List (Nat × List UInt8)
 | []=>[(k,v)]
 | x::l=>if k<x.1 then (k,v)::x::l else if k=x.1 then (k,v)::l else x::qs k v l
def Ty.isD:Ty->D->Bool
 | .scal _ df,.int n=>n==df
 | .list _ _ _,.list o=>(o.getD []).isEmpty
 | .struct _ _ _ _,.obj [.int m,.int n] tags=>m==0&&n==0&&tags.isEmpty
 | _,_=>false
def Ver.isTag:Ver->Bool
 | .tag _ _=>true
 | _=>false
def Ver.addTag (v:Ver) (fx d:Bool) (p:List UInt8) (tags:List (Nat × List UInt8)):List (Nat × List UInt8) :=
 match v with
 | .tag k _=>if fx && !d then qs k p tags else tags
 | _=>tags
def Ver.tagOk (v:Ver) (tags:List (Nat × List UInt8)):Prop :=
 match v with
 | .tag k _=>∀ x ∈ tags,k<x.1
 | _=>True
theorem Ver.addTag_no {v:Ver} (h:v.isTag=false) (fx d:Bool) (p:List UInt8) (tags:List (Nat × List UInt8)):v.addTag fx d p tags=tags:=by cases v<;>simp_all [Ver.isTag,Ver.addTag]
theorem Ver.tagOk_no {v:Ver} (h:v.isTag=false) (tags:List (Nat × List UInt8)):v.tagOk tags:=by cases v<;>simp_all [Ver.isTag,Ver.tagOk]
mutual
def Ty.wr (fx:Bool) (ver:Nat):Ty->D->List UInt8
 | .scal s _,.int n | .named s _ _,.int n=>s.wr n
 | .uuid,.bytes (some l)=>l
 | .text,.bytes (some l)=>ze fx l
 | .ntext,.bytes o=>xV fx o
 | .ntextFrom N,.bytes o=>if ver<N then ze fx (o.getD []) else xV fx o
 | .bytes,.bytes o=>xn fx (o.getD [])
 | .nbytes,.bytes o=>xz fx o
 | .list _ null _,.list none=>if null.isSome then jl fx else zu fx 0
 | .list _ _ e,.list (some l)=>zu fx l.length++(l.map fun d=>e.wr fx ver d).flatten
 | .struct _ _ _ fs,.obj l tags=>fs.wr fx ver l tags
 | .nstruct _ _ _ _ _,.list none=>[255]
 | .nstruct _ _ _ fs _,.list (some [.obj l tags])=>1::fs.wr fx ver l tags
 | _,_=>[]
def Flds.wr (fx:Bool) (ver:Nat):Flds->List D->List (Nat × List UInt8)->List UInt8
 | .nil _,_,tags=>if fx then xU tags else []
 | .cons v t r,d::l,tags=>(if v.has ver then t.wr fx ver d else [])++r.wr fx ver l (v.addTag fx (t.isD d) (t.wr fx ver d) tags)
 | .cons _ _ _,[],_=>[]
end
mutual
def Ty.size:Ty->Nat
 | .uuid=>16
 | .struct _ _ _ fs=>fs.size
 | _=>1
def Flds.size:Flds->Nat
 | .nil tags=>if tags then 1 else 0
 | .cons _ t r=>t.size+r.size
end
structure Sb where
 b:Nat
 T:List (Nat × List UInt8)->Prop
def gg (w:World) (sb:Sb) (B:Nat) (v:Value) (l:List UInt8):Prop :=
 (v=.slice none 0 0/\l=[])\/∃ c o cap,v=.slice (some ⟨c,o,none⟩) l.length cap/\(c=sb.b\/B<=c)/\c<w.heap.size/\qb w c o (l.map bv)
def xx (w:World) (sb:Sb) (B:Nat) (v:Value) (tags:List (Nat × List UInt8)):Prop :=
 gf tags/\sb.T tags/\((v=.map none/\tags=[]) ∨
 ∃ q es clock,v=.map (some q)/\B<=q/\q<w.heap.size/\w.heap[q]? = some (.map es clock)/\(∀ e ∈ es.toList,e.born<clock)/\(es.toList.map (·.born)).Nodup ∧
  ∃ l:List (Nat × List UInt8),l.Perm tags/\(l.length=es.size/\tags≠[]) ∧
   ∀ (i:Nat) (x:Nat × List UInt8),l[i]? = some x->∃ e:MapEntry,es[i]? = some e/\e.key=.int .u32 x.1/\gg w sb B e.val x.2)
mutual
def Ty.Rep (w:World) (sb:Sb):Nat->Ty->List Value->D->Prop
 | _,.scal s _,cs,.int n=>cs=[s.val n]/\s.ok n
 | _,.named s _ _,cs,.int n=>cs=[s.val n]/\s.ok n
 | _,.uuid,cs,.bytes (some l)=>l.length=16/\cs=l.map bv
 | _,.text,cs,.bytes (some l)=>cs=[.string ⟨l.toArray⟩]
 | _,.ntext,cs,.bytes none | _,.ntextFrom _,cs,.bytes none=>cs=[.pointer none]
 | B,.ntext,cs,.bytes (some l) | B,.ntextFrom _,cs,.bytes (some l)=>∃ q,cs=[.pointer (some ⟨q,0,none⟩)]/\B<=q/\w.cell? ⟨q,0,none⟩=some (.string ⟨l.toArray⟩)
 | _,.bytes,cs,.bytes none | _,.nbytes,cs,.bytes none=>cs=[.slice none 0 0]
 | B,.bytes,cs,.bytes (some l) | B,.nbytes,cs,.bytes (some l)=>∃ q o cap,cs=[.slice (some ⟨q,o,none⟩) l.length cap]/\(q=sb.b\/B<=q)/\qb w q o (l.map bv)/\q<w.heap.size
 | B,.list _ null _,cs,.list none=>cs=[.slice none 0 0]\/(null=none/\∃ q cap,cs=[.slice (some ⟨q,0,none⟩) 0 cap]/\B<=q/\q<w.heap.size)
 | B,.list _ _ e,cs,.list (some l)=>∃ q cap,cs=[.slice (some ⟨q,0,none⟩) l.length cap]/\B<=q/\q<w.heap.size/\l.length<=big ∧
   ∀ (i:Nat) (d:D),l[i]? = some d->∃ c:List Value,c.length=e.size/\qb w q (i*e.size) c/\e.Rep w sb (q+1) c d
 | B,.struct _ _ _ fs,cs,.obj l tags=>fs.Rep w sb B cs l tags
 | _,.nstruct _ _ _ _ _,cs,.list none=>cs=[.pointer none]
 | B,.nstruct _ _ _ fs _,cs,.list (some [.obj l tags])=>∃ q c,cs=[.pointer (some ⟨q,0,none⟩)]/\B<=q/\q<w.heap.size/\c.length=fs.size/\qb w q 0 c/\fs.Rep w sb (q+1) c l tags
 | _,_,_,_=>False
def Flds.Rep (w:World) (sb:Sb):Nat->Flds->List Value->List D->List (Nat × List UInt8)->Prop
 | B,.nil t,cs,[],tags=>if t then ∃ v,cs=[v]/\xx w sb B v tags else cs=[]/\tags=[]
 | B,.cons v t r,cs,d::l,tags=>t.Rep w sb B (cs.take t.size) d/\r.Rep w sb B (cs.drop t.size) l tags/\v.tagOk tags
 | _,_,_,_,_=>False
end
section
attribute [local irreducible] vc rO_
section
variable {K : Nat → Prop}
theorem vS {c:Code} {r:List Code} (h:vc P c (Exit.then (vc P (sq r) Q) Q) a w):vc P (sq (c::r)) Q a w:=by
 cases r with
 | nil =>
  refine xi _ h ?_
  intro e a w h
  cases e<;>first | exact vc_skip_inv h | exact h
 | cons d r=>exact vc_seq h
theorem vN (h:Q .normal a w):vc P (sq []) Q a w:=vK h
theorem zw {l r:List Code} (h:vc P (sq l) (Exit.then (vc P (sq r) Q) Q) a w):vc P (sq (l++r)) Q a w:=by
 induction l generalizing a w with
 | nil=>exact vc_skip_inv h
 | cons c l ih =>
  have hh:vc P c (Exit.then (vc P (sq l) (Exit.then (vc P (sq r) Q) Q)) (Exit.then (vc P (sq r) Q) Q)) a w:=by
   cases l with
   | nil=>exact xi c h (fun e a w h=>by cases e<;>first | exact vK h | exact h)
   | cons d l=>exact vc_seq_inv h
  refine vS (xi _ hh ?_)
  intro e a w h
  cases e<;>first | exact ih h | exact h
theorem vc_sq_flat {l:List Code} {r:List Code} (h:vc P (sq (l++r)) Q a w):vc P (sq (sq l::r)) Q a w:=by
 have hh:vc P (sq l) (Exit.then (vc P (sq r) Q) Q) a w:=by
  induction l generalizing a w with
  | nil=>exact vK h
  | cons c l ih =>
   have hc:vc P c (Exit.then (vc P (sq (l++r)) Q) Q) a w:=by
    cases hlr:l++r with
    | nil =>
     have:vc P (sq (c::(l++r))) Q a w:=h
     rw[hlr] at this
     exact xi c this (fun e a w h=>by cases e<;>first | exact vK h | exact h)
    | cons d m =>
     have:vc P (sq (c::(l++r))) Q a w:=h
     rw[hlr] at this
     exact vc_seq_inv this
   refine vS (xi c hc ?_)
   intro e a w h
   cases e<;>first | exact ih h | exact h
 exact vS hh
theorem vR {l:List Oper} (hg:∀ o ∈ l,o.guard=none) (h:rO_ P Q l a w):vc P (rg l) Q a w:=vc_run hg h
theorem vX {l:List Oper} {r:List Code} (h:rO_ P (Exit.then (vc P (sq r) Q) Q) l a w) (hg:(l.all fun o=>o.guard.isNone)=true:=by rfl):vc P (sq (rg l::r)) Q a w:=vS (vR (fun o ho=>Option.isNone_iff_eq_none.1 (List.all_eq_true.1 hg o ho)) h)
theorem m_load {TP TU T:TypeId} {x f:Nat} {val:Value} (hs:a.eval (.tmp s)=.pointer (some ⟨b,o,none⟩)) (hf:qh P TU f=some off) (hT:qW P T=true) (hc:w.cell? ⟨b,o+off,none⟩=some val) (hx:¬ K x) (ht:∀ d,t<=d->¬ K d) (hxt:x<t) (hsz:t+4<=a.tmps.size) (k:∀ a',Fr K a a'->a'.eval (.tmp x)=val->Q .normal a' w):vc P (yV TP TU T x s f t) Q a w:=by
 refine vR zS ?_
 refine rM ?_
 refine xe (ad:=⟨b,o,none⟩) zA ?_
 refine rF (b:=b) (o:=o) zE hf ?_
 refine rL (b:=b) (o:=o+off) zE hT hc ?_
 refine rA (dn ?_)
 refine k _ ?_ zE
 exact (((((Fr.refl K a).put _ (ht _ zH)).put _ (ht _ zH)).put _ (ht _ zH)).put _ (ht _ zH)).put _ hx
theorem m_loadArr {TP TU T:TypeId} {x f:Nat} {z:List Value} (hs:a.eval (.tmp s)=.pointer (some ⟨b,o,none⟩)) (hf:qh P TU f=some off) (hT:zd P T=some cs.length) (hz:qQ P T=some (.agg z.toArray)) (hzl:z.length=cs.length) (h1:∀ v ∈ cs,v.oneCell'=true) (hc:qb w b (o+off) cs) (hx:¬ K x) (ht:∀ d,t<=d->¬ K d) (hxt:x<t) (hsz:t+4<=a.tmps.size) (k:∀ a' w' q,Fr K a a'->a'.eval (.tmp x)=.pointer (some ⟨q,0,none⟩)->w.heap.size<=q->qb w' q 0 cs->Grow w w'->(∃ c,w'.heap[q]? = some (.cells c T))->Q .normal a' w'):vc P (wLoadArr TP TU T x s f t) Q a w:=by
 refine vR zS ?_
 refine rM ?_
 refine xe (ad:=⟨b,o,none⟩) zA ?_
 refine rF (b:=b) (o:=o) zE hf ?_
 refine qf (b:=b) (o:=o+off) zE hT hc ?_
 refine qR hz ?_
 have hfree:∀ i,i<cs.length->qr (w.alloc (.cells (Value.agg z.toArray).cells T)) w.heap.size (0+i):=by
  exact fun i hi=>qq w _ T (by simp[Value.cells];omega)
 refine qy (b:=w.heap.size) (o:=0) (cs:=cs) zE zE h1 hT hfree ?_
 refine dn ?_
 refine k _ _ w.heap.size ?_ zE (Nat.le_refl _) ?_ ?_ ?_
 ·exact (((((Fr.refl K a).put _ (ht _ zH)).put _ (ht _ zH)).put _ (ht _ zH)).put _ (ht _ zH)).put _ hx
 ·intro i v hv
  exact qg _ _ _ _ (fun j hj=>(hfree j hj).1) i v hv
 ·refine ((Eff.refl _ w).alloc _).trans' (qe _ _ _ _) ?_
  rintro k i hk ⟨rfl,_⟩
  omega
 ·have hb:=(qe w.heap.size cs (w.alloc (.cells (Value.agg z.toArray).cells T)) 0).block w.heap.size zS
  rw[heap_alloc_new] at hb
  obtain ⟨c,h,_⟩:=hb
  exact ⟨c,h⟩
theorem m_app {T:TypeId} {x:Nat} {dv arg:Value} (hd:a.eval (.tmp 1)=dv) (hx:a.eval (.tmp x)=arg) (hc:qa P F #[dv,arg] w S) (ht:∀ d,t<=d->¬ K d) (hk1:¬ K 1) (h1:1<t) (hxt:x<t) (hsz:t+3<=a.tmps.size) (k:∀ a' v' w',Fr K a a'->a'.eval (.tmp 1)=v'->S v' w'->Q .normal a' w'):vc P (kM E F T x t) Q a w:=by
 refine vR zS ?_
 refine rM (rM ?_)
 refine q8 (args:=#[dv,arg]) ?_ hc ?_
 ·simp only[lM]
  simp (disch:=(try simp only[sP]);omega) only[eV,hd,hx]
 intro v' w' hs
 refine rA (dn ?_)
 refine k _ v' _ ?_ zE hs
 exact ((((Fr.refl K a).put _ (ht _ zH)).put _ (ht _ zH)).put _ (ht _ zH)).put _ hk1
theorem m_appArr {T:TypeId} {x q:Nat} {dv:Value} (hd:a.eval (.tmp 1)=dv) (hx:a.eval (.tmp x)=.pointer (some ⟨q,0,none⟩)) (hT:zd P T=some cs.length) (hcs:qb w q 0 cs) (hc:qa P F #[dv,.agg cs.toArray] w S) (ht:∀ d,t<=d->¬ K d) (hk1:¬ K 1) (h1:1<t) (hxt:x<t) (hsz:t+3<=a.tmps.size) (k:∀ a' v' w',Fr K a a'->a'.eval (.tmp 1)=v'->S v' w'->Q .normal a' w'):vc P (wAppArr E F T x t) Q a w:=by
 refine vR zS ?_
 refine rM ?_
 refine qf (b:=q) (o:=0) zA hT hcs ?_
 refine q8 (args:=#[dv,.agg cs.toArray]) ?_ hc ?_
 ·simp only[lM]
  simp (disch:=(try simp only[sP]);omega) only[eV,hd]
 intro v' w' hs
 refine rA (dn ?_)
 refine k _ v' _ ?_ zE hs
 exact ((((Fr.refl K a).put _ (ht _ zH)).put _ (ht _ zH)).put _ (ht _ zH)).put _ hk1
theorem m_lens {T:TypeId} {x len:Nat} {dv:Value} (hd:a.eval (.tmp 1)=dv) (hx:a.eval (.tmp x)=.slice ad len cap) (hT:xK P T=some (e,s)) (hc:qa P F #[dv,.int .i64 len] w S) (ht:∀ d,t<=d->¬ K d) (hk1:¬ K 1) (h1:1<t) (hxt:x<t) (hsz:t+4<=a.tmps.size) (k:∀ a' v' w',Fr K a a'->a'.eval (.tmp 1)=v'->S v' w'->Q .normal a' w'):vc P (wLens E F T x t) Q a w:=by
 refine vR zS ?_
 refine rM (rM ?_)
 refine xh (ad:=ad) (n:=len) (c:=cap) hT zA ?_
 refine q8 (args:=#[dv,.int .i64 len]) ?_ hc ?_
 ·simp only[lM]
  simp (disch:=(try simp only[sP]);omega) only[eV,hd]
 intro v' w' hs
 refine rA (dn ?_)
 refine k _ v' _ ?_ zE hs
 exact (((((Fr.refl K a).put _ (ht _ zH)).put _ (ht _ zH)).put _ (ht _ zH)).put _ (ht _ zH)).put _ hk1
theorem yQ {d T x ty p af g e s ad len cap r} (hT:xK P T=some (e,s)) (hx:a.eval x=.slice ad len cap) (h:rO_ P Q r (a.put (some d) (.bool ad.isNone)) w):
  rO_ P Q (⟨some d,.binOp .eql T x (.const (.slice none 0 0)) T,ty,p,af,g⟩::r) a w:=by
 obtain ⟨hu,_⟩:=ja hT
 refine st ?_
 have hb:(binOp .eql T (.slice ad len cap) (.slice none 0 0)).run P w=.ok (.bool ad.isNone) w:=by
  have h0:∀ k:Nat,(Op.equalIn (k+1) T (.slice ad len cap) (.slice none 0 0)).run P w=.ok ad.isNone w:=fun k=>by
   cases ad<;>simp[Op.equalIn,run_underlying hu]
  simp only[binOp]
  simp[Op.equal,Op.maxDepth,h0 9999]
 simp only[Oper.wp,execOp,hx,xr,eqGuard_at_slice,hb,Sem.run_bind,Sem.run_pure,Result.andThen_ok,Oper.upon_value]
 exact h
theorem m_nlens {T:TypeId} {x len:Nat} {dv:Value} (hd:a.eval (.tmp 1)=dv) (hx:a.eval (.tmp x)=.slice ad len cap) (hT:xK P T=some (e,s)) (hc:qa P F #[dv,.int .i64 len,.bool ad.isNone] w S) (ht:∀ d,t<=d->¬ K d) (hk1:¬ K 1) (h1:1<t) (hxt:x<t) (hsz:t+6<=a.tmps.size) (k:∀ a' v' w',Fr K a a'->a'.eval (.tmp 1)=v'->S v' w'->Q .normal a' w'):vc P (wNLens E F T x t) Q a w:=by
 refine vR zS ?_
 refine rM (rM ?_)
 refine xh (ad:=ad) (n:=len) (c:=cap) hT zA ?_
 refine rM ?_
 refine yQ (ad:=ad) (len:=len) (cap:=cap) hT zA ?_
 refine q8 (args:=#[dv,.int .i64 len,.bool ad.isNone]) ?_ hc ?_
 ·simp only[lM]
  simp (disch:=(try simp only[sP]);omega) only[eV,hd]
 intro v' w' hs
 refine rA (dn ?_)
 refine k _ v' _ ?_ zE hs
 exact (((((((Fr.refl K a).put _ (ht _ zH)).put _ (ht _ zH)).put _ (ht _ zH)).put _ (ht _ zH)).put _ (ht _ zH)).put _ (ht _ zH)).put _ hk1
def qz (P:Program) (dj:Nat) (Q:Exit->Act->World->Prop):List Oper->Act->World->Prop
 | [],a,w=>Q .normal a w
 | o::r,a,w=>match o.guard with
  | none=>o.wp P a w (qz P dj Q r) Q
  | some (_,want)=>∃ b,a.eval (.tmp dj)=.bool b/\(if b=want then o.wp P a w (qz P dj Q r) Q else qz P dj Q r (a.put o.dst undef) w)
theorem yielded_of {ops:Array Oper} {j dj:Nat} {o:Oper} {b:Bool} (hj:ops[j]? = some o) (hd:o.dst=some dj) (h:a.eval (.tmp dj)=.bool b):yielded ops a.tmps j=some b:=by
 unfold yielded
 simp only[hj,Option.bind_some,hd]
 simp only[Act.eval,Array.getD_eq_getD_getElem?] at h
 cases ht:a.tmps[dj]? with
 | none=>simp[ht,undef] at h
 | some v=>simp only[ht,Option.getD_some] at h;subst h;rfl
theorem vc_runG {l:List Oper} {dj:Nat} (hg:∀ o ∈ l,o.guard=none\/∃ want,o.guard=some (2,want)) (hd:(l[2]?).bind (·.dst)=some dj) (h:qz P dj Q l a w):vc P (rg l) Q a w:=by
 refine vc_ops ?_
 simp only[List.size_toArray]
 have key:∀ (suf pre:List Oper) (a:Act) (w:World),l=pre++suf->qz P dj Q suf a w->wpOps P l.toArray Q (List.range' pre.length suf.length) a w:=by
  intro suf
  induction suf with
  | nil=>exact fun pre a w _ h=>h
  | cons o r ih =>
   intro pre a w hl h
   have hi:l.toArray[pre.length]? = some o:=by simp[hl]
   simp only[List.length_cons,List.range'_succ,wpOps,hi]
   have hn:∀ a w,qz P dj Q r a w->wpOps P l.toArray Q (List.range' (pre.length+1) r.length) a w:=by
    intro a w h
    have:=ih (pre++[o]) a w (by simp[hl]) h
    simpa using this
   have hwp:o.wp P a w (qz P dj Q r) Q->o.wp P a w (wpOps P l.toArray Q (List.range' (pre.length+1) r.length)) Q:=by
    intro h
    unfold Oper.wp at h ⊢
    revert h
    generalize (execOp a.eval o).run P w=res
    intro h
    unfold Oper.upon at h ⊢
    split at h<;>first
     | exact hn _ _ h
     | exact h
     | (exact Calls.mono h (fun e w' hh=>by cases e<;>first | exact hn _ _ hh | exact hh))
     | (exact Rows.mono h (fun _ _ hh=>hn _ _ hh))
   rcases hg o (by simp[hl]) with ho | ⟨want,ho⟩
   ·simp only[qz,ho] at h
    rw[if_pos (by simp[Region.wanted,ho])]
    exact .inl (hwp h)
   ·simp only[qz,ho] at h
    obtain ⟨b,hb,h⟩:=h
    cases h2:l[2]? with
    | none=>simp[h2] at hd
    | some o2 =>
     simp only[h2,Option.bind_some] at hd
     have hy:=yielded_of (ops:=l.toArray) (j:=2) (by simpa using h2) hd hb
     have hwt:Region.wanted o (yielded l.toArray a.tmps)=(b==want):=by simp[Region.wanted,ho,hy]
     rw[hwt]
     by_cases hbw:b=want
     ·rw[if_pos hbw] at h
      rw[if_pos (by simpa using hbw)]
      exact .inl (hwp h)
     ·rw[if_neg hbw] at h
      rw[if_neg (by simpa using hbw)]
      exact hn _ _ h
 have:=key l [] a w rfl h
 simpa [List.range_eq_range'] using this
section
variable {dj : Nat}
theorem g_dn (h:Q .normal a w):qz P dj Q [] a w:=h
theorem g_want {d op t p af k want b} (hb:a.eval (.tmp dj)=.bool b) (hw:b=want) (h:qz P dj Q (⟨d,op,t,p,af,none⟩::r) a w):qz P dj Q (⟨d,op,t,p,af,some (k,want)⟩::r) a w :=
 ⟨b,hb,by rw[if_pos hw];exact h⟩
theorem g_skip {d op t p af k want b} (hb:a.eval (.tmp dj)=.bool b) (hw:b≠want) (h:qz P dj Q r (a.put d undef) w):qz P dj Q (⟨d,op,t,p,af,some (k,want)⟩::r) a w :=
 ⟨b,hb,by rw[if_neg hw];exact h⟩
theorem g_mv {d:Nat} {x t p af} (h:qz P dj Q r (a.put (some d) (a.eval x)) w):qz P dj Q (⟨some d,.move x,t,p,af,none⟩::r) a w:=h
theorem g_geq {d:Nat} {xt x y yt ty p af k m n} (hx:a.eval x=.int k m) (hy:a.eval y=.int k n) (h:qz P dj Q r (a.put (some d) (.bool (decide (m ≥ n)))) w):qz P dj Q (⟨some d,.binOp .geq xt x y yt,ty,p,af,none⟩::r) a w:=by
 show Oper.wp P _ a w (qz P dj Q r) Q
 simp only[Oper.wp,execOp,hx,hy,eqGuard_at_int,binOp_geq,Sem.run_bind,Sem.run_pure,Result.andThen_ok,Oper.upon_value]
 exact h
theorem g_leq {d:Nat} {xt x y yt ty p af k m n} (hx:a.eval x=.int k m) (hy:a.eval y=.int k n) (h:qz P dj Q r (a.put (some d) (.bool (decide (m<=n)))) w):qz P dj Q (⟨some d,.binOp .leq xt x y yt,ty,p,af,none⟩::r) a w:=by
 show Oper.wp P _ a w (qz P dj Q r) Q
 simp only[Oper.wp,execOp,hx,hy,eqGuard_at_int,binOp_leq,Sem.run_bind,Sem.run_pure,Result.andThen_ok,Oper.upon_value]
 exact h
theorem g_lss {d:Nat} {xt x y yt ty p af k m n} (hx:a.eval x=.int k m) (hy:a.eval y=.int k n) (h:qz P dj Q r (a.put (some d) (.bool (decide (m<n)))) w):qz P dj Q (⟨some d,.binOp .lss xt x y yt,ty,p,af,none⟩::r) a w:=by
 show Oper.wp P _ a w (qz P dj Q r) Q
 simp only[Oper.wp,execOp,hx,hy,eqGuard_at_int,binOp_lss,Sem.run_bind,Sem.run_pure,Result.andThen_ok,Oper.upon_value]
 exact h
theorem g_eql {d:Nat} {xt x y yt ty p af k m n} (hx:a.eval x=.int k m) (hy:a.eval y=.int k n) (h:qz P dj Q r (a.put (some d) (.bool (m==n))) w):qz P dj Q (⟨some d,.binOp .eql xt x y yt,ty,p,af,none⟩::r) a w:=by
 show Oper.wp P _ a w (qz P dj Q r) Q
 simp only[Oper.wp,execOp,hx,hy,eqGuard_at_int,binOp_eql,Sem.run_bind,Sem.run_pure,Result.andThen_ok,Oper.upon_value]
 exact h
theorem g_pick {d:Nat} {c x y ty p af v b} (hc:a.eval c=.bool b) (hv:(if b=true then a.eval x else a.eval y)=v) (h:qz P dj Q r (a.put (some d) v) w):qz P dj Q (⟨some d,.pick c x y,ty,p,af,none⟩::r) a w:=by
 show Oper.wp P _ a w (qz P dj Q r) Q
 simp only[Oper.wp,execOp,hc,asBool,Sem.run_bind,Sem.run_pure,Result.andThen_ok,Oper.upon_value,hv]
 exact h
end
attribute [local irreducible] qz
theorem m_flex {m:Nat} {A B:Tmp->Code} (hfl:∀ f,x.fl=some f->a.eval (.tmp f)=.bool fx/\f<t) (hno:x.fl=none->fx=false) (ht:∀ d,t<=d->¬ K d) (h1:1<t) (hsz:t+x.nt m<=a.tmps.size) (hA:fx=true->∀ a' t',Fr K a a'->t<=t'->t'+m<=a.tmps.size->(∀ k,k<t->a'.eval (.tmp k)=a.eval (.tmp k))->vc P (A t') Q a' w) (hB:fx=false->∀ a' t',Fr K a a'->t<=t'->t'+m<=a.tmps.size->(∀ k,k<t->a'.eval (.tmp k)=a.eval (.tmp k))->vc P (B t') Q a' w):vc P (y6 E x t m A B) Q a w:=by
 unfold y6
 cases hx:x.fl with
 | none =>
  simp only[hx,Cx.nt] at hsz ⊢
  exact hB (hno hx) a t (Fr.refl _ _) (Nat.le_refl _) hsz (fun _ _=>rfl)
 | some f =>
  simp only[hx,Cx.nt] at hsz ⊢
  obtain ⟨hf,hfn⟩:=hfl f hx
  refine vX (rM (dn ?_))
  have hfr:Fr K a (a.put (some t) (a.eval (.tmp f))):=(Fr.refl K a).put _ (ht _ zH)
  have he:∀ k,k<t->(a.put (some t) (a.eval (.tmp f))).eval (.tmp k)=a.eval (.tmp k):=fun k hk=>qj _ _ _ _ zH
  refine vS (vC (t:=fx) zA ?_ ?_)
  ·exact fun h=>xi _ (hA h _ (t+1) hfr zH zH he) (fun e a w h=>by cases e<;>first | exact vN h | exact h)
  ·exact fun h=>xi _ (hB h _ (t+1+m) hfr zH zH he) (fun e a w h=>by cases e<;>first | exact vN h | exact h)
theorem m_ver {v:Ver} {body:Code} (hvt:v.isTag=false) (hv:a.eval (.tmp x.vs)=.int .i16 (ver:Int)) (hvs:x.vs<t) (ht:∀ d,t<=d->¬ K d) (hsz:t+v.nt<=a.tmps.size) (hyes:v.has ver=true->∀ a',Fr K a a'->(∀ k,k<t->a'.eval (.tmp k)=a.eval (.tmp k))->vc P body Q a' w) (hno:v.has ver=false->∀ a',Fr K a a'->(∀ k,k<t->a'.eval (.tmp k)=a.eval (.tmp k))->Q .normal a' w):vc P (ifVer E x v t body) Q a w:=by
 unfold ifVer
 cases v with
 | tag _ _=>cases hvt
 | all=>exact hyes rfl a (Fr.refl _ _) (fun _ _=>rfl)
 | ge m =>
  simp only[Ver.nt] at hsz
  refine vX (rM ?_)
  refine yw (k:=.i16) (m:=ver) (n:=m) zA rfl ?_
  refine dn ?_
  refine vS (vC (t:=decide ((ver:Int) ≥ m)) zE ?_ ?_)
  ·intro h
   have hd:(Ver.ge m).has ver=true:=by simp only[Ver.has,decide_eq_true_eq] at h ⊢;omega
   exact xi _ (hyes hd _ (((Fr.refl K a).put _ (ht _ zH)).put _ (ht _ zH)) (fun k hk=>by rw[qj _ _ _ _ zH,qj _ _ _ _ zH])) (fun e a w h=>by cases e<;>first | exact vN h | exact h)
  ·intro h
   have hd:(Ver.ge m).has ver=false:=by simp only[Ver.has,decide_eq_false_iff_not] at h ⊢;omega
   exact vK (vN (hno hd _ (((Fr.refl K a).put _ (ht _ zH)).put _ (ht _ zH)) (fun k hk=>by rw[qj _ _ _ _ zH,qj _ _ _ _ zH])))
 | btw m m' =>
  simp only[Ver.nt] at hsz
  refine vS (vc_runG (dj:=t+2) zS rfl ?_)
  refine g_mv ?_
  refine g_geq (k:=.i16) (m:=ver) (n:=m) zA rfl ?_
  refine g_mv ?_
  have hfr:Fr K a ((a.put (some t) (a.eval (.tmp x.vs))).put (some (t+1)) (.bool (decide ((ver:Int) ≥ m)))):=((Fr.refl K a).put _ (ht _ zH)).put _ (ht _ zH)
  by_cases h:(ver:Int) ≥ m
  ·refine g_want (b:=decide ((ver:Int) ≥ m)) zE (by simpa using h) ?_
   refine g_mv ?_
   refine g_want (b:=decide ((ver:Int) ≥ m)) zE (by simpa using h) ?_
   refine g_leq (k:=.i16) (m:=ver) (n:=m') zA rfl ?_
   refine g_pick (b:=decide ((ver:Int) ≥ m)) (v:=.bool (decide ((ver:Int)<=m'))) zE (by rw[if_pos (by simpa using h)];exact zE) ?_
   refine g_dn ?_
   refine vS (vC (t:=decide ((ver:Int)<=m')) zE ?_ ?_)
   ·intro h'
    have hd:(Ver.btw m m').has ver=true:=by simp only[Ver.has,Bool.and_eq_true,decide_eq_true_eq] at h' ⊢;omega
    refine xi _ (hyes hd _ ((((hfr.put _ (ht _ zH)).put _ (ht _ zH)).put _ (ht _ zH)).put _ (ht _ zH)) ?_) (fun e a w h=>by cases e<;>first | exact vN h | exact h)
    intro k hk
    exact zE
   ·intro h'
    have hd:(Ver.btw m m').has ver=false:=by simp only[Ver.has,Bool.and_eq_false_iff,decide_eq_false_iff_not] at h' ⊢;omega
    refine vK (vN (hno hd _ ((((hfr.put _ (ht _ zH)).put _ (ht _ zH)).put _ (ht _ zH)).put _ (ht _ zH)) ?_))
    intro k hk
    exact zE
  ·refine g_skip (b:=decide ((ver:Int) ≥ m)) zE (by simpa using h) ?_
   refine g_skip (b:=decide ((ver:Int) ≥ m)) zE (by simpa using h) ?_
   refine g_pick (b:=decide ((ver:Int) ≥ m)) (v:=.bool false) zE (by rw[if_neg (by simpa using h)];rfl) ?_
   refine g_dn ?_
   refine vS (vC (t:=false) zE (fun h=>by cases h) ?_)
   intro _
   have hd:(Ver.btw m m').has ver=false:=by simp only[Ver.has,Bool.and_eq_false_iff,decide_eq_false_iff_not];omega
   refine vK (vN (hno hd _ ((((hfr.put _ (ht _ zH)).put _ (ht _ zH)).put _ (ht _ zH)).put _ (ht _ zH)) ?_))
   intro k hk
   exact zE
theorem m_ifLss {N:Nat} {A B:Code} (hv:a.eval (.tmp x.vs)=.int .i16 (ver:Int)) (hvs:x.vs<t) (ht:∀ d,t<=d->¬ K d) (hsz:t+2<=a.tmps.size) (hA:ver<N->∀ a',Fr K a a'->(∀ k,k<t->a'.eval (.tmp k)=a.eval (.tmp k))->vc P A Q a' w) (hB:¬ ver<N->∀ a',Fr K a a'->(∀ k,k<t->a'.eval (.tmp k)=a.eval (.tmp k))->vc P B Q a' w):vc P (ifLss E x N t A B) Q a w:=by
 unfold ifLss
 refine vX (rM ?_)
 refine xm (k:=.i16) (m:=ver) (n:=N) zA rfl ?_
 refine dn ?_
 refine vS (vC (t:=decide ((ver:Int)<N)) zE ?_ ?_)
 ·intro h
  have hd:ver<N:=by simp only[decide_eq_true_eq] at h;omega
  exact xi _ (hA hd _ (((Fr.refl K a).put _ (ht _ zH)).put _ (ht _ zH)) (fun k hk=>by rw[qj _ _ _ _ zH,qj _ _ _ _ zH])) (fun e a w h=>by cases e<;>first | exact vN h | exact h)
 ·intro h
  have hd:¬ ver<N:=by simp only[decide_eq_false_iff_not] at h;omega
  exact xi _ (hB hd _ (((Fr.refl K a).put _ (ht _ zH)).put _ (ht _ zH)) (fun k hk=>by rw[qj _ _ _ _ zH,qj _ _ _ _ zH])) (fun e a w h=>by cases e<;>first | exact vN h | exact h)
end
end
def xo (P:Program) (t e:TypeId) (s:Nat):Bool :=
 match P.underlying t,P.info? e with
 | some (.slice e'),some i=>e'==e&&i.size==s&&decide (0<s)&&(match i.zero with | some z=>z.cells.size==s | none=>false)&&decide (i.bytes<=65536)
 | _,_=>false
theorem xW {t:TypeId} (h:xo P t e s=true):
  P.underlying t=some (.slice e)/\∃ i z,P.info? e=some i/\i.size=s/\0<s/\i.zero=some z/\z.cells.size=s/\i.bytes<=65536:=by
 unfold xo at h
 split at h
 ·rename_i e' i hu hi
  cases hz:i.zero with
  | none=>simp[hz] at h
  | some z =>
   simp only[hz,Bool.and_eq_true,beq_iff_eq,decide_eq_true_eq] at h
   obtain ⟨⟨⟨⟨h1,h2⟩,h3⟩,h4⟩,h5⟩:=h
   subst h1
   exact ⟨hu,i,z,hi,h2,h3,hz,h4,h5⟩
 ·cases h
theorem rB {t:TypeId} (h:xo P t e s=true):xK P t=some (e,s):=by
 obtain ⟨hu,i,z,hi,hs,_⟩:=xW h
 simp[xK,hu,hi,hs]
theorem jE (w:World) (base:Nat) (t tx ty e:TypeId) (s:Nat) (hB:xo P t e s=true) (v:Value) (n:Nat) (xs:List Value) (hown:w.ownsRow base e s v n xs) (x:Value) (m:Nat) (news:List Value) (hs:Src P s tx x m news w) (hb:n+m<=big) (hbase:base<=w.heap.size):
  ∃ v' w',(Builtin.append_ #[t,tx] ty #[v,x]).run P w=.ok v' w'/\w'.ownsRow base e s v' (n+m) (xs++news)/\w.grownBy w' v.ownBlock/\(∀ g,v'.ownBlock=some g->v.ownBlock=some g\/w.heap.size<=g):=by
 obtain ⟨ht,i,z,hi,hsize,hsz,hz,hzs,hby⟩:=xW hB
 subst hsize
 have hl:=hs.newsLen
 have hsmall:n+m<=9223372036854775807:=by unfold big at hb;omega
 have h63:n+m<=maxLen:=by unfold big at hb;simp only[maxLen];omega
 have hbytes:(n+m)*i.bytes<=140737488355328:=by
  refine Nat.le_trans (Nat.mul_le_mul hb hby) ?_
  unfold big
  omega
 have hlen:(xs++news).length=(n+m)*i.size:=by rw[List.length_append,hown.1,hl,Nat.add_mul]
 have grown:∀ (old:Nat),old<n+m->∀ (row:Option Nat),
   (w.drew.alloc (.cells ((xs++news).toArray++Builtin.zeroCells z.cells (grownCap w (n+m) old e-(n+m))) e)).ownsRow base e i.size
    (.slice (some ⟨w.heap.size,0,none⟩) (n+m) (grownCap w (n+m) old e)) (n+m) (xs++news) ∧
   w.grownBy (w.drew.alloc (.cells ((xs++news).toArray++Builtin.zeroCells z.cells (grownCap w (n+m) old e-(n+m))) e)) row:=by
  intro old ho row
  have hge:=grownCap_ge w (n+m) old e
  have hcm:grownCap w (n+m) old e<=maxLen:=grownCap_le_maxLen w (n+m) old e h63
  refine ⟨⟨hlen,.inr ⟨w.heap.size,_,_,rfl,hbase,heap_alloc_new w.drew _,hge,hcm,?_,?_⟩⟩,⟨rfl,rfl,rfl,by simp,fun k hk _=>heap_alloc_old w.drew _ k hk⟩⟩
  ·have hmul:(n+m)*i.size+(grownCap w (n+m) old e-(n+m))*i.size=grownCap w (n+m) old e*i.size:=by
    rw[← Nat.add_mul]
    congr 1
    omega
   rw[Array.size_append,List.size_toArray,size_zeroCells,hzs,hlen]
   exact hmul
  ·rw[Array.toList_append,← hlen]
   exact List.take_left
 rcases hown.2 with ⟨rfl,rfl⟩ | ⟨g,cap,cur,rfl,hbg,hg,hnc,hcm,hcs,htake⟩
 ·have hx:xs=[]:=List.eq_nil_of_length_eq_zero (by simpa using hown.1)
  subst hx
  by_cases hm:m=0
  ·subst hm
   have hn:news=[]:=List.eq_nil_of_length_eq_zero (by simpa using hl)
   subst hn
   refine ⟨.slice none 0 0,w,?_,World.ownsRow_nil w base e i.size,⟨rfl,rfl,rfl,Nat.le_refl _,fun _ _ _=>rfl⟩,fun g h=>by cases h⟩
   rcases hs.kind with ⟨e',hk⟩ | hk<;>simp[Builtin.append_,run_underlying ht,run_underlying hk,sizeOf,typeInfo,hi,hs.len,hs.cells,storeCells]
  ·have hr:=run_append_grow_src (P:=P) w t tx ty e i z ht hi hz none 0 0 [] (by simp[Builtin.firstCells]) x m news hs zH zH (growslice_fits zH (by simpa using hbytes))
   have hgr:=grown 0 zH (Value.ownBlock (.slice none 0 0))
   simp only[Nat.zero_add,List.nil_append] at hgr hr ⊢
   exact ⟨_,_,hr,hgr.1,hgr.2,fun g' h=>.inr (by simp only[Value.ownBlock,Option.some.injEq] at h;omega)⟩
 ·by_cases hroom:n+m<=cap
  ·have hfit:n*i.size+news.length<=cur.size:=by rw[hl,hcs,← Nat.add_mul];exact Nat.mul_le_mul_right _ hroom
   have hc:∀ j,j<news.length->(w.cell? ⟨g,0+n*i.size+j,none⟩).isSome=true:=by
    intro j hj
    have:0+n*i.size+j<cur.size:=by omega
    simp[World.cell?,hg]
    omega
   have hf:∀ j,j<news.length->w.frozen? ⟨g,0+n*i.size+j,none⟩=false:=by
    intro j hj
    simp[World.frozen?,hg]
   have hr:=run_append_room_src (P:=P) w t tx ty e i ht hi g 0 n cap x m news hs hroom hc hf
   have e1:=run_storeCells_cells (P:=P) g (0+n*i.size) news 0 w (by simpa using hc) (by simpa using hf) hs.one
   have e2:=run_storeCells_at P g (0+n*i.size) e news 0 cur w hg (by simpa using hfit) hs.one
   have e3:=e1.symm.trans e2
   simp only[Nat.add_zero] at e3
   injection e3 with _ e3
   rw[e3] at hr
   refine ⟨_,_,hr,⟨hlen,.inr ⟨g,cap,_,rfl,hbg,setRow_heap w g cur _ e _ hg,hroom,hcm,?_,?_⟩⟩,⟨rfl,rfl,rfl,by simp,fun k _ hk=>setRow_other w g k _ (fun e=>hk (by simp[Value.ownBlock,e]))⟩,fun g' h=>.inl h⟩
   ·simp only[List.size_toArray,List.length_append,List.length_take,List.length_drop,Array.length_toList]
    omega
   ·simp only[Nat.zero_add]
    rw[htake,← hlen]
    exact List.take_left
  ·have holds:∀ j u,xs[j]? = some u->w.cell? ((⟨g,0,none⟩:Addr).add j)=some u:=hown.cells (g:=g) rfl
   have hr:=run_append_grow_src (P:=P) w t tx ty e i z ht hi hz (some ⟨g,0,none⟩) n cap xs (run_firstCells_some w.drew i.size n _ n cap xs hown.1 (by simpa using holds)) x m news hs zH zH (growslice_fits zH hbytes)
   have hgr:=grown cap zH (Value.ownBlock (.slice (some ⟨g,0,none⟩) n cap))
   exact ⟨_,_,hr,hgr.1,hgr.2,fun g' h=>.inr (by simp only[Value.ownBlock,Option.some.injEq] at h;omega)⟩
theorem kb {base:Nat} (hown:w.ownsRow base e s v n xs) (hg:w.grownBy w' v.ownBlock) (hU:base<=w.heap.size):Below base w w' :=
 ⟨hg.os,hg.tape,hg.output,hg.size,fun k hk=>hg.block k zH (fun he=>by have:=hown.lt k he.symm;omega)⟩
theorem zh {t:TypeId} {q:Nat} (ht:xK P t=some (e,s)) (hc:qb w q o cs) (hl:cs.length=n*s) (h1:∀ u ∈ cs,u.oneCell'=true):
  Src P s t (.slice (some ⟨q,o,none⟩) n cap) n cs w :=
 Src.ofSlice w (ja ht).1 _ n cap cs hl (fun j u hu=>by rw[Addr.add_lit];exact hc j u hu) h1
theorem xH (l:List UInt8):∀ u ∈ l.map bv,u.oneCell'=true:=by
 intro u hu
 obtain ⟨b,_,rfl⟩:=List.mem_map.1 hu
 rfl
theorem gx {t:TypeId} {c:Nat} (ht:xK P t=some (e,s)):Src P s t (.slice none 0 c) 0 [] w:=Src.ofNil w (ja ht).1 c
theorem byteCells_bv (l:List UInt8):byteCells ⟨l.toArray⟩=l.map bv:=by
 simp[byteCells,bv]
theorem gw {t:TypeId} (ht:P.underlying t=some .string) (l:List UInt8):Src P 1 t (.string ⟨l.toArray⟩) l.length (l.map bv) w:=by
 have:=Src.ofString (P:=P) w ht ⟨l.toArray⟩
 rw[byteCells_bv] at this
 exact this
theorem zI {t:TypeId} (ht:xK P t=some (e,s)) (h:w.ownsRow U e s v n xs) (h1:∀ u ∈ xs,u.oneCell'=true):Src P s t v n xs w:=by
 rcases h.2 with ⟨rfl,rfl⟩ | ⟨g,cap,cur,rfl,hbg,hg,hnc,hcm,hcs,htake⟩
 ·have:xs=[]:=List.eq_nil_of_length_eq_zero (by simpa using h.1)
  subst this
  exact gx ht
 ·refine zh ht ?_ h.1 h1
  intro j u hu
  have:=h.cells (g:=g) rfl j u hu
  rwa [Addr.add_lit] at this
structure Gd where
 u:Nat
 g:Nat->Option Obj
instance:Coe Gd Nat:=⟨Gd.u⟩
def Gd.none:Nat->Option Obj:=fun _=>Option.none
def KeptG (w:World) (g:Nat->Option Obj) (e:TypeId):Prop:=∀ b o,g b=some o->w.heap[b]? = some o/\∀ cur,o≠.cells cur e (0,0)
theorem KeptG.none (w:World) (e:TypeId):KeptG w Gd.none e:=fun b o h=>by cases h
structure _root_.Go.World.ownsG (w:World) (U:Gd) (e:TypeId) (s:Nat) (v:Value) (n:Nat) (xs:List Value):Prop where
 own:w.ownsRow U.u e s v n xs
 kept:KeptG w U.g e
theorem _root_.Go.World.ownsG.stay {U:Gd} (h:w.ownsG U e s v n xs) (hg:w.grownBy w' v.ownBlock):KeptG w' U.g e:=by
 intro b o hb
 obtain ⟨h1,h2⟩:=h.kept b o hb
 refine ⟨?_,h2⟩
 rw[hg.block b (Array.getElem?_eq_some_iff.1 h1).1 (fun e1=>?_)]
 ·exact h1
 ·rcases h.own.2 with ⟨rfl,_⟩ | ⟨g,cap,cur,rfl,_,h3,_⟩
  ·cases e1
  ·simp only[Value.ownBlock,Option.some.injEq] at e1
   subst e1
   rw[h1] at h3
   exact h2 cur (Option.some.inj h3)
theorem _root_.Go.World.ownsG.alloc {w:World} {U:Gd} {e:TypeId} {s:Nat} {v:Value} {n:Nat} {xs:List Value} (h:w.ownsG U e s v n xs) (o:Obj):(w.alloc o).ownsG U e s v n xs :=
 ⟨h.own.alloc o,fun b o' hb=>⟨by rw[heap_alloc_old w o b (Array.getElem?_eq_some_iff.1 (h.kept b o' hb).1).1];exact (h.kept b o' hb).1,(h.kept b o' hb).2⟩⟩
theorem _root_.Go.World.ownsRow.toG {u:Nat} (h:w.ownsRow u e s v n xs):w.ownsG ⟨u,Gd.none⟩ e s v n xs:=⟨h,KeptG.none _ _⟩
theorem xD {d s x t tx ty p af g e sz U v n xs u m news} (hB:xo P t e sz=true) (hs:a.eval s=v) (hx:a.eval x=u) (hown:w.ownsRow U e sz v n xs) (hU:U<=w.heap.size) (hsrc:Src P sz tx u m news w) (hb:n+m<=big) (h:∀ v' w',w'.ownsRow U e sz v' (n+m) (xs++news)->Below U w w'->rO_ P Q r (a.put (some d) v') w'):
  rO_ P Q (⟨some d,.call { callee:=.builtin .append,args:=#[s,x],argTypes:=#[t,tx] },ty,p,af,g⟩::r) a w:=by
 refine st ?_
 obtain ⟨v',w',hr,h1,h2,_⟩:=jE w U t tx ty e sz hB v n xs hown u m news hsrc hb hU
 subst hs;subst hx
 simp only[Oper.wp,execOp,resolve,invoke,builtin,Sem.run_bind,Sem.run_pure,Result.andThen_ok,List.map_toArray,List.map_cons,List.map_nil,hr,Oper.upon_value]
 exact h v' w' h1 (kb hown h2 hU)
theorem jT {d s x t tx ty p af g e sz v n xs u m news} {U:Gd} (hB:xo P t e sz=true) (hs:a.eval s=v) (hx:a.eval x=u) (hown:w.ownsG U e sz v n xs) (hU:U.u<=w.heap.size) (hsrc:Src P sz tx u m news w) (hb:n+m<=big) (h:∀ v' w',w'.ownsG U e sz v' (n+m) (xs++news)->Below U.u w w'->rO_ P Q r (a.put (some d) v') w'):
  rO_ P Q (⟨some d,.call { callee:=.builtin .append,args:=#[s,x],argTypes:=#[t,tx] },ty,p,af,g⟩::r) a w:=by
 refine st ?_
 obtain ⟨v',w',hr,h1,h2,_⟩:=jE w U.u t tx ty e sz hB v n xs hown.own u m news hsrc hb hU
 subst hs;subst hx
 simp only[Oper.wp,execOp,resolve,invoke,builtin,Sem.run_bind,Sem.run_pure,Result.andThen_ok,List.map_toArray,List.map_cons,List.map_nil,hr,Oper.upon_value]
 exact h v' w' ⟨h1,hown.stay h2⟩ (kb hown.own h2 hU)
theorem xf {d c x y ty p af g} (hc:a.eval c=.bool true) (h:rO_ P Q r (a.put (some d) (a.eval x)) w):rO_ P Q (⟨some d,.pick c x y,ty,p,af,g⟩::r) a w:=by
 refine st ?_
 simp only[Oper.wp,execOp,hc,asBool,Sem.run_bind,Sem.run_pure,Result.andThen_ok,Oper.upon_value,if_true]
 exact h
theorem xE {d c x y ty p af g} (hc:a.eval c=.bool false) (h:rO_ P Q r (a.put (some d) (a.eval y)) w):rO_ P Q (⟨some d,.pick c x y,ty,p,af,g⟩::r) a w:=by
 refine st ?_
 simp only[Oper.wp,execOp,hc,asBool,Sem.run_bind,Sem.run_pure,Result.andThen_ok,Oper.upon_value,Bool.false_eq_true,if_false]
 exact h
theorem run_newRow' (e:TypeId) (c:Array Value) (w:World):(newRow e c).run P w=.ok ⟨w.heap.size,0,none⟩ (w.alloc (.cells c e)):=by
 simp[newRow]
theorem xM {d t n ps ty p af g e s} {vs:List Value} (hB:xo P t e s=true) (hp:(ps.map fun (x:Nat × Operand)=>(x.1,a.eval x.2)).toList=(vs.zipIdx 0).map fun x=>(x.2,x.1)) (hn:vs.length=n) (hs:∀ v ∈ vs,v.cells.size=s) (hlim:n*s<=16777216) (hn0:0<n) (h:rO_ P Q r (a.put (some d) (.slice (some ⟨w.heap.size,0,none⟩) n n)) (w.alloc (.cells (vs.flatMap fun v=>v.cells.toList).toArray e))):
  rO_ P Q (⟨some d,.buildSlice t n ps,ty,p,af,g⟩::r) a w:=by
 refine st ?_
 obtain ⟨hu,i,z,hi,hsz,hs0,hz,hzs,_⟩:=xW hB
 have hn':n*s≠0:=Nat.ne_of_gt (Nat.mul_pos hn0 hs0)
 have hf:=Great.fill_whole hs0 vs ((Array.range (n*s)).map (z.cells[· % z.cells.size]!)) hs (by simp[hn])
 have hz':(zeroValue e).run P w=.ok z w:=by simp[zeroValue,typeInfo,hi,hz]
 have hr:(Instr.buildSlice t n (ps.map fun (i,x)=>(i,a.eval x))).run P w=.ok (.slice (some ⟨w.heap.size,0,none⟩) n n) (w.alloc (.cells (vs.flatMap fun v=>v.cells.toList).toArray e)):=by
  have hp':(ps.map fun (i,x)=>(i,a.eval x)).toList=(vs.zipIdx 0).map fun x=>(x.2,x.1):=hp
  have hlim':¬ (n*s>2 ^ 24):=by simp only[Nat.reducePow];omega
  simp only[Instr.buildSlice,Sem.run_bind,run_underlying hu,Result.andThen_ok,ju (rB hB),if_neg hlim',if_neg hn',hz',Sem.run_pure,hp',hf,run_newRow']
 simp only[Oper.wp,execOp,Sem.run_bind,hr,Sem.run_pure,Result.andThen_ok,Oper.upon_value]
 exact h
def kq (ops:List Oper) (a:Act) (o:Oper):Bool:=Region.wanted o (yielded ops.toArray a.tmps)
def qP (P:Program) (ops:List Oper) (Q:Exit->Act->World->Prop):List Nat->Act->World->Prop
 | [],a,w=>Q .normal a w
 | i::r,a,w=>∃ o,ops[i]? = some o/\(if kq ops a o=true then o.wp P a w (qP P ops Q r) Q else qP P ops Q r (a.put o.dst undef) w)
section
variable {ops : List Oper} {r : List Nat}
theorem xQ {id:Nat} (h:qP P ops Q (List.range ops.length) a w):vc P (.region id ops.toArray false) Q a w:=by
 refine vc_ops ?_
 have key:∀ (l:List Nat) (a:Act) (w:World),qP P ops Q l a w->wpOps P ops.toArray Q l a w:=by
  intro l
  induction l with
  | nil=>exact fun a w h=>h
  | cons i r ih =>
   rintro a w ⟨o,ho,h⟩
   have ho':ops.toArray[i]? = some o:=by simpa using ho
   simp only[wpOps,ho']
   by_cases hw:kq ops a o=true
   ·rw[if_pos hw] at h
    have hw':Region.wanted o (yielded ops.toArray a.tmps)=true:=hw
    rw[if_pos hw']
    exact .inl (Oper.wp_mono (fun a w=>ih a w) h)
   ·rw[if_neg hw] at h
    have hw':¬ Region.wanted o (yielded ops.toArray a.tmps)=true:=hw
    rw[if_neg hw']
    exact ih _ _ h
 have:=key _ a w h
 simpa using this
theorem qx (h:Q .normal a w):qP P ops Q [] a w:=h
theorem rD {i:Nat} {o:Oper} (ho:ops[i]? = some o) (hw:kq ops a o=true) (h:rO_ P (Exit.then (qP P ops Q r) Q) [o] a w):qP P ops Q (i::r) a w:=by
 refine ⟨o,ho,?_⟩
 rw[if_pos hw]
 have h':o.wp P a w (qP P ops Q r) (Exit.then (qP P ops Q r) Q):=h
 unfold Oper.wp at h' ⊢
 revert h'
 generalize (execOp a.eval o).run P w=res
 intro h
 unfold Oper.upon at h ⊢
 split at h<;>first
  | exact h
  | (exact Calls.mono h (fun e w' hh=>by cases e<;>exact hh))
  | (exact Rows.mono h (fun _ _ hh=>hh))
theorem rT (h:qP P ops Q r a w):Exit.then (qP P ops Q r) Q .normal a w:=h
theorem x7 {i:Nat} {o:Oper} (ho:ops[i]? = some o) (hw:kq ops a o=false) (h:qP P ops Q r (a.put o.dst undef) w):qP P ops Q (i::r) a w:=by
 refine ⟨o,ho,?_⟩
 rw[if_neg (by rw[hw];exact Bool.false_ne_true)]
 exact h
theorem wN {o:Oper} (h:o.guard=none):kq ops a o=true:=by simp[kq,Region.wanted,h]
theorem wS {o:Oper} {j:Nat} {dj:Tmp} {want b:Bool} (h:o.guard=some (j,want)) (hj:(ops[j]?).bind (·.dst)=some dj) (hb:a.eval (.tmp dj)=.bool b):kq ops a o=(b==want):=by
 unfold kq Region.wanted
 rw[h]
 have hy:yielded ops.toArray a.tmps j=some b:=by
  cases hoj:ops[j]? with
  | none=>simp[hoj] at hj
  | some oj=>exact yielded_of (by simpa using hoj) (by simpa [hoj] using hj) hb
 simp[hy]
theorem vh {o:Oper} {j:Nat} {dj:Tmp} {want:Bool} (h:o.guard=some (j,want)) (hj:(ops[j]?).bind (·.dst)=some dj) (hb:a.eval (.tmp dj)=undef) (hd:dj<a.tmps.size):kq ops a o=false:=by
 unfold kq Region.wanted
 rw[h]
 have hy:yielded ops.toArray a.tmps j=none:=by
  unfold yielded
  simp only[List.getElem?_toArray,hj,Option.bind_some]
  simp only[Act.eval,Array.getD_eq_getD_getElem?] at hb
  rw[Array.getElem?_eq_getElem hd] at hb ⊢
  simp only[Option.getD_some] at hb
  simp[hb,undef]
 simp[hy]
end
def isPure:Op->Bool
 | .move _ | .assign _ | .load _ _ | .fieldAddr _ _ _ | .indexAddr _ _ _ | .binOp _ _ _ _ _ | .unOp _ _ _ | .convert _ _ _ | .pick _ _ _ | .slice _ _ _ _ _=>true
 | .call c=>match c.callee with | .builtin .len=>true | .builtin .min=>true | .builtin .max=>true | _=>false
 | _=>false
def qJ (P:Program) (ops:List Oper) (Q:Exit->Act->World->Prop) (S:World->Prop):List (Nat × Bool)->Act->World->Prop
 | [],a,w=>Q .normal a w
 | (i,true)::r,a,w=>∃ o v,ops[i]? = some o/\YieldsIf P ops.toArray S o v a/\S w/\qJ P ops Q S r (a.put o.dst v) w
 | (i,false)::r,a,w=>wpOp P ops.toArray Q i (fun a' w'=>S w'/\qJ P ops Q S r a' w') a w
def ordB (ops:Array Oper):List (Nat × Bool)->Array Bool->Bool
 | [],listed=>(Region.ready .any ops listed).isEmpty
 | (i,true)::r,listed=>(Region.ready .any ops listed).contains i&&Region.free .any ops listed i&&ordB ops r (listed.setIfInBounds i true)
 | (i,false)::r,listed=>decide (Region.ready .any ops listed=[i])&&ordB ops r (listed.setIfInBounds i true)
section
variable {ops : List Oper} {S : World → Prop}
theorem kL (hs:Region.noSelect ops.toArray=true) (hQ:∀ c a a' w,Q (.panic c) a w->Q (.panic c) a' w):∀ (ord:List (Nat × Bool)) (listed:Array Bool) (a:Act) (w:World),ordB ops.toArray ord listed=true →
  qJ P ops Q S ord a w->wpAnyH P .any ops.toArray Q S ord.length listed a w
 | [],listed,a,w,hB,h=>by
  simp only[ordB,List.isEmpty_iff] at hB
  exact ⟨hB,h⟩
 | (i,true)::r,listed,a,w,hB,⟨o,v,ho,hy,hS,h⟩=>by
  simp only[ordB,Bool.and_eq_true] at hB
  have ho':ops.toArray[i]? = some o:=by simpa using ho
  exact wpAnyH_take ho' hs hB.1.2 hB.1.1 (fun c a w h=>hQ c _ _ w h) hy hS (kL hs hQ r _ _ w hB.2 h)
 | (i,false)::r,listed,a,w,hB,h=>by
  simp only[ordB,Bool.and_eq_true,decide_eq_true_eq] at hB
  refine wpAnyH_all (rs:=[i]) hB.1 zS ?_
  intro j hj
  simp only[List.mem_singleton] at hj
  subst hj
  exact wpOp_mono (fun a' w' h'=>⟨h'.1,kL hs hQ r _ a' w' hB.2 h'.2⟩) h
theorem vc_runD (ord:List (Nat × Bool)) (S:World->Prop) {id:Nat} (hm:P.follows .mixedOrders=true) (hs:Region.noSelect ops.toArray=true) (hl:ord.length=ops.length) (hB:ordB ops.toArray ord (Array.replicate ops.length false)=true) (hQ:∀ c a a' w,Q (.panic c) a w->Q (.panic c) a' w) (h:qJ P ops Q S ord a { w with drawn:=w.drawn+1 }):vc P (.region id ops.toArray true) Q a w:=by
 refine vc_draw (fun t=>?_)
 simp only[Region.schedule,hm,Bool.true_or,if_true]
 refine wpAny_sound ops.toArray.size t _ a _ (wpAny_of_held (S:=S) _ _ _ _ ?_)
 have:=kL hs hQ ord _ a _ hB h
 rw[hl] at this
 simpa using this
theorem xI (h:Q .normal a w):qJ P ops Q S [] a w:=h
def yq (a:Act) (d:Option Tmp) (v:Value) (w:World):Exit->Act->World->Prop:=fun e a' w'=>e=.normal/\a'=a.put d v/\w'=w
theorem v_value {x:Sem Value} {n:Next} (h:(do let y ← x;pure (Next.value y):Sem Next).run P w=.ok n w'):∃ v,n=.value v:=by
 rw[Sem.run_bind] at h
 cases hx:x.run P w with
 | ok y w1 =>
  rw[hx,Result.andThen_ok,Sem.run_pure] at h
  injection h with h1 _
  exact ⟨_,h1.symm⟩
 | halt s w1 =>
  rw[hx] at h
  cases h
theorem pure_value {ρ : Operand → Value} {o : Oper} (hp : isPure o.op = true) {n : Next} (h : (execOp ρ o).run P w = .ok n w'): ∃ v, n = .value v := by
  unfold isPure at hp
  unfold execOp at h
  split at hp <;> first | exact absurd hp Bool.false_ne_true | (rename_i heq; rw [heq] at h)
  all_goals first
    | exact v_value h
    | (rw [Sem.run_pure] at h; injection h with h1 _; exact ⟨_, h1.symm⟩)
    | (simp only [Sem.run_bind] at h
       revert h
       generalize Sem.run P (asBool _) w = res
       intro h
       cases res with
       | ok y w1 => rw [Result.andThen_ok, Sem.run_pure] at h; injection h with h1 _; exact ⟨_, h1.symm⟩
       | halt s w1 => cases h)
    | skip
  rename_i c
  split at hp <;> first | exact absurd hp Bool.false_ne_true | skip
  all_goals
    rename_i hc
    simp only [resolve, hc, Sem.run_bind, Sem.run_pure, Result.andThen_ok, invoke, builtin] at h
    refine v_value (x := ?_) (by rw [Sem.run_bind]; simp only [Sem.run_pure]; exact h)
theorem yields_run {o:Oper} {d:Nat} (hp:isPure o.op=true) (hd:o.dst=some d) (hsz:d<a.tmps.size) (h:rO_ P (yq a (some d) v w) [o] a w):(execOp a.eval o).run P w=.ok (.value v) w:=by
 have h':o.wp P a w (yq a (some d) v w .normal) (yq a (some d) v w):=h
 unfold Oper.wp at h'
 cases hr:(execOp a.eval o).run P w with
 | ok n w' =>
  obtain ⟨u,rfl⟩:=pure_value hp hr
  rw[hr] at h'
  simp only[Oper.upon,hd] at h'
  obtain ⟨_,h1,h2⟩:=h'
  subst h2
  have h3:(a.put (some d) u).eval (.tmp d)=(a.put (some d) v).eval (.tmp d):=by rw[h1]
  rw[qE _ _ _ hsz,qE _ _ _ hsz] at h3
  rw[h3]
 | halt x w' =>
  rw[hr] at h'
  cases x<;>simp[Oper.upon,yq] at h'
theorem dP {i d:Nat} {o:Oper} {r:List (Nat × Bool)} (ho:ops[i]? = some o) (hp:isPure o.op=true) (hd:o.dst=some d) (hw:kq ops a o=true) (hsz:d<a.tmps.size) (hS:S w) (h:∀ w',S w'->rO_ P (yq a (some d) v w') [o] a w') (k:qJ P ops Q S r (a.put (some d) v) w):qJ P ops Q S ((i,true)::r) a w :=
 ⟨o,v,ho,.inl ⟨hw,fun w' hS'=>yields_run hp hd hsz (h w' hS')⟩,hS,by rw[hd];exact k⟩
theorem d_no {i d:Nat} {o:Oper} {r:List (Nat × Bool)} (ho:ops[i]? = some o) (hd:o.dst=some d) (hw:kq ops a o=false) (hS:S w) (k:qJ P ops Q S r (a.put (some d) undef) w):qJ P ops Q S ((i,true)::r) a w :=
 ⟨o,undef,ho,.inr ⟨hw,rfl⟩,hS,by rw[hd];exact k⟩
theorem qw {i:Nat} {o:Oper} {r:List (Nat × Bool)} (ho:ops[i]? = some o) (hw:kq ops a o=true) (h:rO_ P (Exit.then (fun a w=>S w/\qJ P ops Q S r a w) Q) [o] a w):qJ P ops Q S ((i,false)::r) a w:=by
 have ho':ops.toArray[i]? = some o:=by simpa using ho
 show wpOp P ops.toArray Q i _ a w
 unfold wpOp
 have hw':Region.wanted o (yielded ops.toArray a.tmps)=true:=hw
 simp only[ho',hw',if_true]
 left
 have h':o.wp P a w (fun a w=>S w/\qJ P ops Q S r a w) (Exit.then (fun a w=>S w/\qJ P ops Q S r a w) Q):=h
 unfold Oper.wp at h' ⊢
 revert h'
 generalize (execOp a.eval o).run P w=res
 intro h
 unfold Oper.upon at h ⊢
 split at h<;>first
  | exact h
  | (exact Calls.mono h (fun e w' hh=>by cases e<;>exact hh))
  | (exact Rows.mono h (fun _ _ hh=>hh))
theorem qv {r:List (Nat × Bool)} (hS:S w) (h:qJ P ops Q S r a w):Exit.then (fun a w=>S w/\qJ P ops Q S r a w) Q .normal a w:=⟨hS,h⟩
end
section
attribute [local irreducible] vc rO_ qz
theorem wrap_i64 {n:Int} (h0:-9223372036854775808<=n) (h1:n<=9223372036854775807):IntKind.i64.wrap n=n:=IntWalk.i64_in n ⟨h0,h1⟩
theorem m_wloop {T:TypeId} {x post len:Nat} {body:Code} (hx:a.eval (.tmp x)=.slice ad len cap) (hT:xK P T=some (e,s)) (hlen:len<=9223372036854775806) (hxt:x<t) (hpost:t+4<=post) (hsz:post<a.tmps.size) (I:Nat->Act->World->Prop) (stab:∀ i a a' w,I i a w->a'.tmps.size=a.tmps.size->a'.defers=a.defers->(∀ k,k<t->a'.eval (.tmp k)=a.eval (.tmp k))->I i a' w) (h0:I 0 a w) (step:∀ i a' w',i<len->I i a' w'->a'.eval (.tmp (t+2))=.int .i64 (i:Int)->a'.tmps.size=a.tmps.size->a'.eval (.tmp t)=.slice ad len cap →
   vc P body (fun | .normal=>fun a2 w2=>I (i+1) a2 w2/\a2.eval (.tmp (t+2))=a'.eval (.tmp (t+2))/\a2.eval (.tmp (t+1))=a'.eval (.tmp (t+1))/\a2.tmps.size=a'.tmps.size/\a2.eval (.tmp t)=a'.eval (.tmp t) | _=>fun _ _=>False) a' w') (done:∀ a' w',I len a' w'->Q .normal a' w'):vc P (wLoop E T x t b post body) Q a w:=by
 unfold wLoop
 refine vX (rM ?_)
 refine xh (ad:=ad) (n:=len) (c:=cap) hT zA ?_
 refine rM (dn ?_)
 refine vS (qk ?_)
 refine zU (fun a' w'=>∃ i,i<=len/\I i a' w'/\a'.eval (.tmp (t+2))=.int .i64 (i:Int)/\a'.eval (.tmp (t+1))=.int .i64 (len:Int)/\a'.tmps.size=a.tmps.size/\a'.eval (.tmp t)=.slice ad len cap)
  (fun a' _=>len-(intOf (a'.eval (.tmp (t+2)))).toNat) ?_ ?_
 ·refine ⟨0,Nat.zero_le _,stab 0 a _ w h0 (by simp only[zP]) (by simp only[dF]) (fun k hk=>by exact zE),?_,?_,by simp only[zP],zA⟩
  ·simp (disch:=(first | omega | (simp only[zP];omega))) only[qE];rfl
  ·exact zE
 rintro a1 w1 ⟨i,hi,hI,h2,h1,hs1,ht0⟩
 refine vX ?_
 refine xm (k:=.i64) (m:=i) (n:=len) h2 h1 ?_
 refine dn ?_
 refine vS (vC (t:=decide ((i:Int)<len)) zE ?_ ?_)
 ·intro hlt
  have hlt':i<len:=by simpa using hlt
  refine vK ?_
  refine vS (qk ?_)
  have hI':I i (a1.put (some (t+3)) (.bool (decide ((i:Int)<len)))) w1:=stab i a1 _ w1 hI (zP _ _ _) (dF _ _ _) (fun k hk=>qj _ _ _ _ zH)
  refine xi _ (step i _ w1 hlt' hI' (by rw[qj _ _ _ _ zH];exact h2) (by rw[zP];exact hs1) (by rw[qj _ _ _ _ zH];exact ht0)) ?_
  intro ex a2 w2 h
  cases ex with
  | normal =>
   obtain ⟨hI2,e2,e1,hs2,e0⟩:=h
   have e2':a2.eval (.tmp (t+2))=.int .i64 (i:Int):=by rw[e2,qj _ _ _ _ zH];exact h2
   have e1':a2.eval (.tmp (t+1))=.int .i64 (len:Int):=by rw[e1,qj _ _ _ _ zH];exact h1
   have hs2':a2.tmps.size=a.tmps.size:=by rw[hs2,zP];exact hs1
   refine vX ?_
   refine z8 (k:=.i64) (m:=i) (n:=1) e2' rfl ?_
   refine rM (dn (vN ?_))
   have hw:IntKind.i64.wrap ((i:Int)+1)=((i+1:Nat):Int):=by rw[wrap_i64 zH zH];omega
   have hps:post<a2.tmps.size:=by omega
   have e3:((a2.put (some post) (.int .i64 (IntKind.i64.wrap ((i:Int)+1)))).put (some (t+2)) ((a2.put (some post) (.int .i64 (IntKind.i64.wrap ((i:Int)+1)))).eval (.tmp post))).eval (.tmp (t+2))=.int .i64 ((i+1:Nat):Int):=by
    rw[qE _ _ _ (by rw[zP];omega),qE _ _ _ hps,hw]
   refine ⟨⟨i+1,hlt',stab (i+1) a2 _ w2 hI2 (by simp only[zP]) (by simp only[dF]) (fun k hk=>by exact zE),e3,?_,by simp only[zP];exact hs2',?_⟩,?_⟩
   ·rw[qj _ _ _ _ zH,qj _ _ _ _ zH];exact e1'
   ·rw[qj _ _ _ _ zH,qj _ _ _ _ zH,e0,qj _ _ _ _ zH];exact ht0
   ·show len-(intOf _).toNat<len-(intOf _).toNat
    rw[e3,h2]
    simp only[intOf,Int.toNat_natCast]
    omega
  | _=>exact h.elim
 ·intro hge
  have hi':i=len:=by simp at hge;omega
  subst hi'
  refine xp ?_
  show Exit.inBlock b _ (.exit b) _ _
  simp only[Exit.inBlock,if_true]
  exact vN (done _ _ (stab i a1 _ w1 hI (zP _ _ _) (dF _ _ _) (fun k hk=>qj _ _ _ _ zH)))
def Wr1 (P:Program) (E:Env) (F:FuncId) (U:Gd) (args:List Value) (bs:List UInt8) (w:World):Prop :=
 ∀ dv (xs:List UInt8),w.ownsG U E.tU8 1 dv xs.length (xs.map bv)->U.u<=w.heap.size->xs.length+bs.length<=big →
  qa P F (#[dv]++args.toArray) w fun v' w'=>w'.ownsG U E.tU8 1 v' (xs++bs).length ((xs++bs).map bv)/\Below U.u w w'
def yi (w:World) (U:Nat) (v:Value):Option (List UInt8)->Prop
 | none=>v=.pointer none
 | some l=>∃ q,v=.pointer (some ⟨q,0,none⟩)/\q<U/\w.cell? ⟨q,0,none⟩=some (.string ⟨l.toArray⟩)
def jA (w:World) (U:Nat) (v:Value):Option (List UInt8)->Prop
 | none=>v=.slice none 0 0
 | some l=>∃ q o cap,v=.slice (some ⟨q,o,none⟩) l.length cap/\q<U/\qb w q o (l.map bv)
structure EnvW (P:Program) (E:Env) (T:List (Nat × List UInt8)->Prop):Prop where
 bytes:xK P E.tB=some (E.tU8,1)
 scal:∀ s,E.wScal s≠0->∀ n (U:Gd) w,s.ok n->Wr1 P E (E.wScal s) U [s.val n] (s.wr n) w
 uuid:E.wUuid≠0->∀ l (U:Gd) w,l.length=16->Wr1 P E E.wUuid U [.agg (l.map bv).toArray] l w
 str:E.wStr≠0->∀ l (U:Gd) w,Wr1 P E E.wStr U [.string ⟨l.toArray⟩] (ze false l) w
 cstr:E.wCStr≠0->∀ l (U:Gd) w,Wr1 P E E.wCStr U [.string ⟨l.toArray⟩] (ze true l) w
 nstr:E.wNStr≠0->∀ v o (U:Gd) w,yi w U.u v o->Wr1 P E E.wNStr U [v] (xV false o) w
 cnstr:E.wCNStr≠0->∀ v o (U:Gd) w,yi w U.u v o->Wr1 P E E.wCNStr U [v] (xV true o) w
 octs:E.wBytes≠0->∀ v o (U:Gd) w,jA w U.u v o->Wr1 P E E.wBytes U [v] (xn false (o.getD [])) w
 cocts:E.wCBytes≠0->∀ v o (U:Gd) w,jA w U.u v o->Wr1 P E E.wCBytes U [v] (xn true (o.getD [])) w
 nocts:E.wNBytes≠0->∀ v o (U:Gd) w,jA w U.u v o->Wr1 P E E.wNBytes U [v] (xz false o) w
 cnocts:E.wCNBytes≠0->∀ v o (U:Gd) w,jA w U.u v o->Wr1 P E E.wCNBytes U [v] (xz true o) w
 len:E.wLen≠0->∀ (n:Nat) (U:Gd) w,n<=big->Wr1 P E E.wLen U [.int .i64 n] (zu false n) w
 clen:E.wCLen≠0->∀ (n:Nat) (U:Gd) w,n<=big->Wr1 P E E.wCLen U [.int .i64 n] (zu true n) w
 nlen:E.wNLen≠0->∀ (n:Nat) (b:Bool) (U:Gd) w,n<=big->Wr1 P E E.wNLen U [.int .i64 n,.bool b] (if b then jl false else zu false n) w
 cnlen:E.wCNLen≠0->∀ (n:Nat) (b:Bool) (U:Gd) w,n<=big->Wr1 P E E.wCNLen U [.int .i64 n,.bool b] (if b then jl true else zu true n) w
 uvar:E.wUvarint≠0->∀ (n:Nat) (U:Gd) w,n<4294967296->Wr1 P E E.wUvarint U [.int .u32 n] (Go.Km.uvar n) w
 tlen:E.tLen≠0->∀ (W0:World) (sb:Sb) b o v tags (w:World),sb.T=T->w.cell? ⟨b,o,none⟩=some v->xx W0 sb 0 v tags->Below W0.heap.size W0 w →
  qa P E.tLen #[.pointer (some ⟨b,o,none⟩)] w fun r w'=>r=.int .i64 (tags.length:Int)/\Grow w w'
 teach:E.tEach≠0->∀ (W0:World) (sb:Sb) b o v tags (w:World),sb.T=T->w.cell? ⟨b,o,none⟩=some v->xx W0 sb 0 v tags->Below W0.heap.size W0 w →
  ∀ (G:Nat->Option Obj) dv (xs:List UInt8),w.ownsG ⟨W0.heap.size,G⟩ E.tU8 1 dv xs.length (xs.map bv)->dv.ownBlock≠some b->xs.length+((tags.map qV).flatten).length<=big →
   qa P E.tEach #[.pointer (some ⟨b,o,none⟩),dv] w fun v' w' =>
    w'.ownsG ⟨W0.heap.size,G⟩ E.tU8 1 v' (xs++(tags.map qV).flatten).length ((xs++(tags.map qV).flatten).map bv)/\Below W0.heap.size w w'
theorem own_ne (h:w.ownsRow U e 1 v n xs) (hb:b<U):v.ownBlock≠some b:=fun e=>by have:=h.lt b e;omega
theorem _root_.Go.RowKit.Below.cellS (h:Below w.heap.size w w') (hc:w.cell? ⟨b,o,none⟩=some v):w'.cell? ⟨b,o,none⟩=some v:=by rw[h.cell (p:=⟨b,o,none⟩) (qi hc)];exact hc
def yC (P:Program) (t:TypeId) (n:Nat):Bool :=
 match qQ P t with
 | some (.agg c)=>c.size==n
 | _=>false
theorem vf {t n} (h:yC P t n=true):∃ z:List Value,qQ P t=some (.agg z.toArray)/\z.length=n:=by
 unfold yC at h
 split at h
 ·rename_i c hc
  exact ⟨c.toList,by simpa using hc,by simpa using h⟩
 ·cases h
def sliceB (P:Program) (t:TypeId) (n:Nat):Bool :=
 match xK P t with
 | some (_,s)=>s==n
 | none=>false
theorem sliceB_inv {t n} (h:sliceB P t n=true):∃ e,xK P t=some (e,n):=by
 unfold sliceB at h
 split at h
 ·rename_i e s hs
  simp only[beq_iff_eq] at h
  subst h
  exact ⟨e,hs⟩
 ·cases h
def ptrB (P:Program) (t:TypeId):Bool :=
 match P.underlying t with
 | some (.pointer _)=>true
 | _=>false
theorem gF {t} (h:ptrB P t=true):∃ e,P.underlying t=some (.pointer e):=by
 unfold ptrB at h
 split at h
 ·rename_i e he
  exact ⟨e,he⟩
 ·cases h
def Cx.ok (x:Cx) (F G:FuncId):Bool:=(G != 0)&&(x.fl.isNone||F != 0)
def Ver.nxt (m:Nat):Ver->Nat
 | .tag k _=>k+1
 | _=>m
def Scal.isInt:Scal->Bool
 | .bool | .f64=>false
 | _=>true
def Ver.okK (P:Program) (E:Env) (x:Cx) (m:Nat) (t:Ty):Ver->Bool
 | .tag k _=>decide (m<=k)&&decide (k<4294967296)&&x.fl.isSome&&xo P E.tU32s E.tW 1&&qW P E.tW&&E.tW != E.tU8&&(match t with | .scal c _=>c.isInt | .list _ none _=>true | .struct _ TU _ _=>t.two&&TU==E.tZ&&E.zNew != 0&&E.zSame != 0&&zd P TU==some 3&&yC P TU 3&&TU != E.tU8 | _=>false)
 | _=>true
mutual
def Ty.okW (P:Program) (E:Env) (x:Cx):Ty->Bool
 | .scal s _=>E.wScal s != 0&&qW P (E.tScal s)
 | .named s T _=>E.wScal s != 0&&qW P T
 | .uuid=>E.wUuid != 0&&zd P E.tUuid==some 16&&yC P E.tUuid 16
 | .text=>x.ok E.wCStr E.wStr&&qW P E.tStr
 | .ntext=>x.ok E.wCNStr E.wNStr&&qW P E.tPStr
 | .ntextFrom _=>x.ok E.wCStr E.wStr&&x.ok E.wCNStr E.wNStr&&qW P E.tPStr&&qW P E.tStr&&ptrB P E.tPStr
 | .bytes=>x.ok E.wCBytes E.wBytes&&qW P E.tB
 | .nbytes=>x.ok E.wCNBytes E.wNBytes&&qW P E.tB
 | .list TS null e=>(if null.isSome then x.ok E.wCNLen E.wNLen else x.ok E.wCLen E.wLen)&&qW P TS&&sliceB P TS e.size && !e.arr&&e.okW P E x
 | .struct _ TU _ fs=>fs.okW P E x TU 0 0
 | .nstruct TP TU _ fs PP=>xo P E.tB E.tU8 1&&ptrB P TP&&qW P TP&&fs.okW P E x TU 0 0
def Flds.okW (P:Program) (E:Env) (x:Cx) (TU:TypeId) (idx off:Nat) (m:Nat:=0):Flds->Bool
 | .nil tags=>x.fl.isNone||(tags&&qh P TU idx==some off&&E.tLen != 0&&E.tEach != 0&&E.wUvarint != 0)
 | .cons v t r=>qh P TU idx==some off&&t.okW P E x&&(v.okK P E x m t&&Flds.okW P E x TU (idx+1) (off+t.size) (v.nxt m) r)
end
structure WSt (P:Program) (E:Env) (W0:World) (G:Nat->Option Obj) (x:Cx) (ver:Nat) (fx:Bool) (a:Act) (w:World) (xs:List UInt8):Prop where
 below:Below W0.heap.size W0 w
 own:w.ownsG ⟨W0.heap.size,G⟩ E.tU8 1 (a.eval (.tmp 1)) xs.length (xs.map bv)
 ver:a.eval (.tmp x.vs)=.int .i16 (ver:Int)
 fl:∀ f,x.fl=some f->a.eval (.tmp f)=.bool fx
def KW (L n t:Nat) (k:Nat):Prop:=k≠1/\(k<n\/(L<=k/\k<t))
theorem KW.mono {n' t':Nat} (hn:n<=n') (ht:t<=t'):∀ k,KW L n t k->KW L n' t' k:=fun k ⟨h1,h2⟩=>⟨h1,by omega⟩
structure WSl (x:Cx) (L n t:Nat) (fx:Bool):Prop where
 one:1<n
 vs:x.vs<n/\x.vs≠1
 fl:∀ f,x.fl=some f->f<n/\f≠1
 no:x.fl=none->fx=false
 nL:n<=L
 Lt:L<=t
theorem WSl.kt (h:WSl x L n t fx):∀ d,t<=d->¬ KW L n t d:=by
 rintro d hd ⟨_,h2⟩
 have:=h.nL;have:=h.Lt
 omega
theorem WSl.k1 (h:WSl x L n t fx):¬ KW L n t 1:=fun h=>h.1 rfl
theorem WSl.up {n' t':Nat} (h:WSl x L n t fx) (hn:n<=n') (hL:n'<=L) (ht:t<=t'):WSl x L n' t' fx :=
 ⟨by have:=h.one;omega,⟨by have:=h.vs.1;omega,h.vs.2⟩,fun f hf=>⟨by have:=(h.fl f hf).1;omega,(h.fl f hf).2⟩,h.no,hL,by have:=h.Lt;omega⟩
section
variable {W0 : World} {sb : Sb}
theorem WSt.fr {a':Act} {xs:List UInt8} (h:WSt P E W0 G x ver fx a w xs) (hs:WSl x L n t fx) (hf:Fr (KW L n t) a a') (h1:a'.eval (.tmp 1)=a.eval (.tmp 1)):
  WSt P E W0 G x ver fx a' w xs :=
 ⟨h.below,by rw[h1];exact h.own,by rw[hf.slot _ ⟨hs.vs.2,.inl hs.vs.1⟩];exact h.ver,fun f hh=>by rw[hf.slot _ ⟨(hs.fl f hh).2,.inl (hs.fl f hh).1⟩];exact h.fl f hh⟩
theorem WSt.step {a':Act} {xs bs:List UInt8} {v':Value} (h:WSt P E W0 G x ver fx a w xs) (hs:WSl x L n t fx) (hf:Fr (KW L n t) a a') (h1:a'.eval (.tmp 1)=v') (hc:w'.ownsG ⟨W0.heap.size,G⟩ E.tU8 1 v' (xs++bs).length ((xs++bs).map bv)/\Below W0.heap.size w w'):WSt P E W0 G x ver fx a' w' (xs++bs) :=
 ⟨h.below.trans hc.2,by rw[h1];exact hc.1,by rw[hf.slot _ ⟨hs.vs.2,.inl hs.vs.1⟩];exact h.ver,fun f hh=>by rw[hf.slot _ ⟨(hs.fl f hh).2,.inl (hs.fl f hh).1⟩];exact h.fl f hh⟩
theorem WSt.size {x:Cx} {ver:Nat} {fx:Bool} {a:Act} {w:World} {xs:List UInt8} (h:WSt P E W0 G x ver fx a w xs):W0.heap.size<=w.heap.size:=h.below.size
def Ty.Holds (W0 w:World) (a:Act) (v:Nat) (cs:List Value) (t:Ty):Prop :=
 match t.tp with
 | some _=>∃ b o,a.eval (.tmp v)=.pointer (some ⟨b,o,none⟩)/\qb W0 b o cs
 | none=>if t.arr then ∃ q,a.eval (.tmp v)=.pointer (some ⟨q,0,none⟩)/\qb w q 0 cs else cs=[a.eval (.tmp v)]
def Ty.WOk (P:Program) (E:Env) (W0:World) (sb:Sb) (ty:Ty):Prop :=
 ∀ (G:Nat->Option Obj) (x:Cx) (ver:Nat) (fx:Bool) (L v n t b B:Nat) (a:Act) (w:World) (xs:List UInt8) (cs:List Value) (d:D) (Q:Exit->Act->World->Prop),
  ty.okW P E x=true->WSl x L n t fx->v<n->v≠1->n+ty.wn<=L->t+ty.wt x<=a.tmps.size →
  WSt P E W0 G x ver fx a w xs->ty.Holds W0 w a v cs->ty.Rep W0 sb B cs d->xs.length+(ty.wr fx ver d).length<=big →
  (∀ a' w',Fr (KW L n t) a a'->WSt P E W0 G x ver fx a' w' (xs++ty.wr fx ver d)->Q .normal a' w')->vc P (sq (ty.wc E x v n t b)) Q a w
def gm (n:Nat):Value:=.int .u32 n
def KW1 (L n t:Nat) (k:Nat):Prop:=k<n\/(L<=k/\k<t)
structure KX where
 kw:KWr
 p:Option (List UInt8)
structure KX.ok (P:Program) (E:Env) (W0:World) (x:Cx) (ver:Nat) (fx:Bool) (s pb po:Nat) (e:KX):Prop where
 ask:fx=true->∀ (L n t U:Nat) (a:Act) (w:World) (ns:List Nat) (Q:Exit->Act->World->Prop),L<=t->n+1<=L->s<n->t+e.kw.askT<=a.tmps.size->a.eval (.tmp s)=.pointer (some ⟨pb,po,none⟩)->Below W0.heap.size W0 w->U<=w.heap.size->ns.length+1<=big →
  w.ownsRow U E.tW 1 (a.eval (.tmp n)) ns.length (ns.map gm) →
  (∀ a' w',Fr (KW1 L n t) a a'->w'.ownsRow U E.tW 1 (a'.eval (.tmp n)) (ns++if e.p.isSome then [e.kw.k] else []).length ((ns++if e.p.isSome then [e.kw.k] else []).map gm)->Below U w w'->Q .normal a' w')->vc P (e.kw.ask n t) Q a w
 cas:∀ pl,e.p=some pl->∀ (G:Nat->Option Obj) (L n t b:Nat) (a:Act) (w:World) (xs:List UInt8) (Q:Exit->Act->World->Prop),WSl x L n t fx->s<n->s≠1->n+e.kw.casN<=L->t+e.kw.casT<=a.tmps.size →
  WSt P E W0 G x ver fx a w xs->a.eval (.tmp s)=.pointer (some ⟨pb,po,none⟩)->xs.length+(qV (e.kw.k,pl)).length<=big →
  (∀ a' w',Fr (KW L n t) a a'->WSt P E W0 G x ver fx a' w' (xs++qV (e.kw.k,pl))->Q .normal a' w')->vc P (e.kw.cas n t b) Q a w
def qG (kt:List KX):List (Nat × List UInt8):=kt.filterMap fun e=>e.p.map fun p=>(e.kw.k,p)
structure KXs (P:Program) (E:Env) (W0:World) (x:Cx) (ver:Nat) (fx:Bool) (s pb po m:Nat) (kt:List KX) (tags:List (Nat × List UInt8)):Prop where
 ok:∀ e ∈ kt,e.ok P E W0 x ver fx s pb po
 lt:∀ e ∈ kt,e.kw.k<m
 asc:kt.Pairwise fun e f=>e.kw.k<f.kw.k
 beh:∀ e ∈ kt,∀ y ∈ tags,e.kw.k<y.1
 fl:kt≠[]->x.fl.isSome=true/\xo P E.tU32s E.tW 1=true/\qW P E.tW=true/\E.tW≠E.tU8/\∀ e ∈ kt,e.kw.k<4294967296
theorem KXs.nil {P:Program} {E:Env} {W0:World} {x:Cx} {ver:Nat} {fx:Bool} {s pb po m:Nat} {tags:List (Nat × List UInt8)}:KXs P E W0 x ver fx s pb po m [] tags :=
 ⟨fun e h=>by simp at h,fun e h=>by simp at h,List.Pairwise.nil,fun e h=>by simp at h,fun h=>absurd rfl h⟩
def Flds.WOk (P:Program) (E:Env) (W0:World) (sb:Sb) (fs:Flds):Prop :=
 ∀ (G:Nat->Option Obj) (x:Cx) (ver:Nat) (fx:Bool) (L TP TU s idx off n t b B pb po m:Nat) (a:Act) (w:World) (xs:List UInt8) (cs:List Value) (ds:List D) (tags:List (Nat × List UInt8)) (kt:List KX) (Q:Exit->Act->World->Prop),
  fs.okW P E x TU idx off m=true->WSl x L n t fx->s<n->s≠1->n+fs.wn (kt.map (·.kw.casN))<=L->t+fs.wt x (kt.map fun e=>e.kw.askT+(2+e.kw.casT))<=a.tmps.size →
  WSt P E W0 G x ver fx a w xs->a.eval (.tmp s)=.pointer (some ⟨pb,po,none⟩)->qb W0 pb (po+off) cs->fs.Rep W0 sb B cs ds tags->KXs P E W0 x ver fx s pb po m kt tags->xs.length+(fs.wr fx ver ds (qG kt++tags)).length<=big →
  (∀ a' w',Fr (KW L n t) a a'->WSt P E W0 G x ver fx a' w' (xs++fs.wr fx ver ds (qG kt++tags))->Q .normal a' w')->vc P (sq (Flds.wc E x TP TU s idx (kt.map (·.kw)) n t b fs)) Q a w
theorem w_app {T:TypeId} {v:Nat} {xs bs:List UInt8} {arg:Value} (hs:WSl x L n t fx) (hv:v<n) (hsz:t+3<=a.tmps.size) (hst:WSt P E W0 G x ver fx a w xs) (ha:a.eval (.tmp v)=arg) (hc:Wr1 P E F ⟨W0.heap.size,G⟩ [arg] bs w) (hb:xs.length+bs.length<=big) (k:∀ a' w',Fr (KW L n t) a a'->WSt P E W0 G x ver fx a' w' (xs++bs)->Q .normal a' w'):vc P (kM E F T v t) Q a w:=by
 have h1:=hs.one;have h2:=hs.nL;have h3:=hs.Lt
 exact m_app rfl ha (hc _ xs hst.own hst.size hb) hs.kt hs.k1 zH zH hsz (fun a' v' w' hf e hS=>k a' w' hf (hst.step hs hf e hS))
theorem w_flex {F2:FuncId} {T:TypeId} {v:Nat} {xs:List UInt8} {bs:Bool->List UInt8} {arg:Value} (hs:WSl x L n t fx) (hv:v<n) (hv1:v≠1) (hsz:t+x.nt 3<=a.tmps.size) (hst:WSt P E W0 G x ver fx a w xs) (ha:a.eval (.tmp v)=arg) (hF:fx=true->Wr1 P E F ⟨W0.heap.size,G⟩ [arg] (bs true) w) (hG:fx=false->Wr1 P E F2 ⟨W0.heap.size,G⟩ [arg] (bs false) w) (hb:xs.length+(bs fx).length<=big) (k:∀ a' w',Fr (KW L n t) a a'->WSt P E W0 G x ver fx a' w' (xs++bs fx)->Q .normal a' w'):vc P (y6 E x t 3 (kM E F T v) (kM E F2 T v)) Q a w:=by
 have h1:=hs.one;have h2:=hs.nL;have h3:=hs.Lt
 refine m_flex (K:=KW L n t) (fx:=fx) (fun f hf=>⟨hst.fl f hf,by have:=(hs.fl f hf).1;omega⟩) hs.no hs.kt zH hsz ?_ ?_
 ·intro hfx a' t' hf ht' hsz' he
  subst hfx
  refine w_app (n:=n) (L:=L) (hs.up (Nat.le_refl _) hs.nL ht') hv (by rw[hf.size];exact hsz') (hst.fr hs hf (he 1 zH)) (by rw[he v zH];exact ha) (hF rfl) hb ?_
  exact fun a2 w2 hf2 hst2=>k a2 w2 (hf.trans (hf2.mono (KW.mono (Nat.le_refl _) ht'))) hst2
 ·intro hfx a' t' hf ht' hsz' he
  subst hfx
  refine w_app (n:=n) (L:=L) (hs.up (Nat.le_refl _) hs.nL ht') hv (by rw[hf.size];exact hsz') (hst.fr hs hf (he 1 zH)) (by rw[he v zH];exact ha) (hG rfl) hb ?_
  exact fun a2 w2 hf2 hst2=>k a2 w2 (hf.trans (hf2.mono (KW.mono (Nat.le_refl _) ht'))) hst2
theorem Cx.ok_inv {G:FuncId} (h:x.ok F G=true):G≠0/\(∀ fx,(x.fl=none->fx=false)->fx=true->F≠0):=by
 simp only[Cx.ok,Bool.and_eq_true,bne_iff_ne,ne_eq,Bool.or_eq_true] at h
 refine ⟨h.1,fun fx hno hfx=>?_⟩
 rcases h.2 with h | h
 ·cases hx:x.fl with
  | none=>have:=hno hx;rw[this] at hfx;cases hfx
  | some f=>rw[hx] at h;cases h
 ·exact h
theorem wok_scal (H:EnvW P E sb.T) (s:Scal) (df:Int):(Ty.scal s df).WOk P E W0 sb:=by
 intro G x ver fx L v n t b B a w xs cs d Q hok hs hv hv1 hn ht hst hh hr hb k
 simp only[Ty.okW,Bool.and_eq_true,bne_iff_ne,ne_eq] at hok
 cases d with
 | int m =>
  simp only[Ty.Rep] at hr
  simp only[Ty.Holds,Ty.tp,Ty.arr] at hh
  have he:a.eval (.tmp v)=s.val m:=by
   have:=hh.symm.trans hr.1
   simpa using this
  simp only[Ty.wr] at hb k
  simp only[Ty.wc]
  exact w_app hs hv ht hst he (H.scal s hok.1 m _ _ hr.2) hb k
 | _=>exact absurd hr (by simp[Ty.Rep])
theorem wok_named (H:EnvW P E sb.T) (s:Scal) (T:TypeId) (df:Int):(Ty.named s T df).WOk P E W0 sb:=by
 intro G x ver fx L v n t b B a w xs cs d Q hok hs hv hv1 hn ht hst hh hr hb k
 simp only[Ty.okW,Bool.and_eq_true,bne_iff_ne,ne_eq] at hok
 have h1:=hs.one;have h2:=hs.nL;have h3:=hs.Lt
 simp only[Ty.wn] at hn
 simp only[Ty.wt] at ht
 cases d with
 | int m =>
  simp only[Ty.Rep] at hr
  simp only[Ty.Holds,Ty.tp,Ty.arr] at hh
  have he:a.eval (.tmp v)=s.val m:=by
   have:=hh.symm.trans hr.1
   simpa using this
  simp only[Ty.wr] at hb k
  simp only[Ty.wc]
  refine vX (rM (rA (dn ?_)))
  have hf:Fr (KW L n t) a ((a.put (some t) (a.eval (.tmp v))).put (some n) ((a.put (some t) (a.eval (.tmp v))).eval (.tmp t))) :=
   ((Fr.refl _ a).put _ (hs.kt t (Nat.le_refl _))).put _ (by rintro ⟨_,h | h⟩<;>omega)
  have he1:((a.put (some t) (a.eval (.tmp v))).put (some n) ((a.put (some t) (a.eval (.tmp v))).eval (.tmp t))).eval (.tmp 1)=a.eval (.tmp 1):=by exact zE
  have hen:((a.put (some t) (a.eval (.tmp v))).put (some n) ((a.put (some t) (a.eval (.tmp v))).eval (.tmp t))).eval (.tmp n)=s.val m:=by exact zA
  refine vS (w_app (n:=n+1) (t:=t+1) (hs.up zH zH zH) zH (by rw[hf.size];omega) (hst.fr hs hf he1) hen (H.scal s hok.1 m _ _ hr.2) hb ?_)
  exact fun a' w' hf' hst'=>vN (k a' w' (hf.trans (hf'.mono (KW.mono zH zH))) hst')
 | _=>exact absurd hr (by simp[Ty.Rep])
theorem wok_uuid (H:EnvW P E sb.T):(Ty.uuid).WOk P E W0 sb:=by
 intro G x ver fx L v n t b B a w xs cs d Q hok hs hv hv1 hn ht hst hh hr hb k
 simp only[Ty.okW,Bool.and_eq_true,bne_iff_ne,ne_eq,beq_iff_eq] at hok
 have h1:=hs.one;have h2:=hs.nL;have h3:=hs.Lt
 cases d with
 | bytes o =>
  cases o with
  | none=>exact absurd hr (by simp[Ty.Rep])
  | some l =>
   simp only[Ty.Rep] at hr
   obtain ⟨hl,rfl⟩:=hr
   simp only[Ty.Holds,Ty.tp,Ty.arr,if_true] at hh
   obtain ⟨q,hq,hc⟩:=hh
   simp only[Ty.wr] at hb k
   simp only[Ty.wc]
   refine vS (m_appArr (K:=KW L n t) rfl hq (by rw[hok.1.2];simp[hl]) hc (H.uuid hok.1.1 l _ _ hl _ xs hst.own hst.size hb) hs.kt hs.k1 zH zH ht ?_)
   exact fun a' v' w' hf e hS=>vN (k a' w' hf (hst.step hs hf e hS))
 | _=>exact absurd hr (by simp[Ty.Rep])
theorem wok_text (H:EnvW P E sb.T):(Ty.text).WOk P E W0 sb:=by
 intro G x ver fx L v n t b B a w xs cs d Q hok hs hv hv1 hn ht hst hh hr hb k
 simp only[Ty.okW,Bool.and_eq_true] at hok
 obtain ⟨hG,hF⟩:=Cx.ok_inv hok.1
 cases d with
 | bytes o =>
  cases o with
  | none=>exact absurd hr (by simp[Ty.Rep])
  | some l =>
   simp only[Ty.Rep] at hr
   simp only[Ty.Holds,Ty.tp,Ty.arr] at hh
   have he:a.eval (.tmp v)=.string ⟨l.toArray⟩:=by
    have:=hh.symm.trans hr
    simpa using this
   simp only[Ty.wr] at hb k
   simp only[Ty.wc]
   exact w_flex (bs:=fun fx=>ze fx l) hs hv hv1 ht hst he (fun hfx=>H.cstr (hF fx hs.no hfx) l _ _) (fun _=>H.str hG l _ _) hb k
 | _=>exact absurd hr (by simp[Ty.Rep])
theorem pstr_of_rep {o:Option (List UInt8)} (hw:Below W0.heap.size W0 w) (h:(Ty.ntext).Rep W0 sb B [v] (.bytes o)):yi w W0.heap.size v o:=by
 cases o with
 | none=>simp only[Ty.Rep] at h;simpa [yi] using h
 | some l =>
  simp only[Ty.Rep] at h
  obtain ⟨q,hv,_,hc⟩:=h
  have hq:=qi hc
  exact ⟨q,by simpa using hv,hq,by rw[hw.cell (p:=⟨q,0,none⟩) hq];exact hc⟩
theorem qb.below (h:qb w b o cs) (hw:Below B w w') (hb:b<B):qb w' b o cs :=
 fun i v hv=>by rw[hw.cell (p:=⟨b,o+i,none⟩) hb];exact h i v hv
theorem oct_of_rep {o:Option (List UInt8)} (hw:Below W0.heap.size W0 w) (h:(Ty.nbytes).Rep W0 sb B [v] (.bytes o)):jA w W0.heap.size v o:=by
 cases o with
 | none=>simp only[Ty.Rep] at h;simpa [jA] using h
 | some l =>
  simp only[Ty.Rep] at h
  obtain ⟨q,o,cap,hv,_,hc,hq⟩:=h
  exact ⟨q,o,cap,by simpa using hv,hq,hc.below hw hq⟩
theorem wok_ntext (H:EnvW P E sb.T):(Ty.ntext).WOk P E W0 sb:=by
 intro G x ver fx L v n t b B a w xs cs d Q hok hs hv hv1 hn ht hst hh hr hb k
 simp only[Ty.okW,Bool.and_eq_true] at hok
 obtain ⟨hG,hF⟩:=Cx.ok_inv hok.1
 have hh':cs=[a.eval (.tmp v)]:=by simpa [Ty.Holds,Ty.tp,Ty.arr] using hh
 subst hh'
 cases d with
 | bytes o =>
  have hp:yi w W0.heap.size (a.eval (.tmp v)) o:=pstr_of_rep hst.below hr
  simp only[Ty.wr] at hb k
  simp only[Ty.wc]
  exact w_flex (bs:=fun fx=>xV fx o) hs hv hv1 ht hst rfl (fun hfx=>H.cnstr (hF fx hs.no hfx) _ o _ _ hp) (fun _=>H.nstr hG _ o _ _ hp) hb k
 | _=>exact absurd hr (by simp[Ty.Rep])
theorem r_neNilP {d T x ty p af g ad} (hT:P.underlying T=some (.pointer e)) (hx:a.eval x=.pointer ad) (h:rO_ P Q r (a.put (some d) (.bool (!ad.isNone))) w):
  rO_ P Q (⟨some d,.binOp .neq T x (.const (.pointer none)) T,ty,p,af,g⟩::r) a w:=by
 refine st ?_
 have hb:(binOp .neq T (.pointer ad) (.pointer none)).run P w=.ok (.bool (!ad.isNone)) w:=by
  have h0:∀ k:Nat,(Op.equalIn (k+1) T (.pointer ad) (.pointer none)).run P w=.ok ad.isNone w:=fun k=>by
   cases ad<;>simp[Op.equalIn,run_underlying hT]
  simp only[binOp]
  simp[Op.equal,Op.maxDepth,h0 9999]
 have hg:(eqGuard .neq T x (.const (.pointer none)) (.pointer ad) (.pointer none))=pure ():=by cases ad<;>rfl
 simp only[Oper.wp,execOp,hx,xr,hg,hb,Sem.run_bind,Sem.run_pure,Result.andThen_ok,Oper.upon_value]
 exact h
theorem wok_ntextFrom (H:EnvW P E sb.T) (N:Nat):(Ty.ntextFrom N).WOk P E W0 sb:=by
 intro G x ver fx L v n t b B a w xs cs d Q hok hs hv hv1 hn ht hst hh hr hb k
 simp only[Ty.okW,Bool.and_eq_true] at hok
 obtain ⟨⟨⟨⟨hok1,hok2⟩,hP⟩,hS⟩,hT⟩:=hok
 obtain ⟨hG1,hF1⟩:=Cx.ok_inv hok1
 obtain ⟨hG2,hF2⟩:=Cx.ok_inv hok2
 obtain ⟨te,hT⟩:=gF hT
 have h1:=hs.one;have h2:=hs.nL;have h3:=hs.Lt
 simp only[Ty.wn] at hn
 simp only[Ty.wt] at ht
 have hh':cs=[a.eval (.tmp v)]:=by simpa [Ty.Holds,Ty.tp,Ty.arr] using hh
 subst hh'
 cases d with
 | bytes o =>
  have hr':(Ty.ntext).Rep W0 sb B [a.eval (.tmp v)] (.bytes o):=by cases o<;>simpa [Ty.Rep] using hr
  have hp:yi w W0.heap.size (a.eval (.tmp v)) o:=pstr_of_rep hst.below hr'
  simp only[Ty.wr] at hb k
  simp only[Ty.wc]
  refine vS (m_ifLss (K:=KW L n t) hst.ver (by have:=hs.vs.1;omega) hs.kt zH ?_ ?_)
  ·intro hlt a1 hf1 he1
   rw[if_pos hlt] at hb
   simp only[if_pos hlt] at k
   have hz1:=hf1.size
   have fin:∀ a2,Fr (KW L n t) a a2->a2.eval (.tmp n)=.string ⟨(o.getD []).toArray⟩->a2.eval (.tmp 1)=a.eval (.tmp 1) →
     vc P (sq [rg [qd (t+7) (.tmp n) E.tStr,qc (n+1) (.tmp (t+7)) E.tStr],y6 E x (t+8) 3 (kM E E.wCStr E.tStr (n+1)) (kM E E.wStr E.tStr (n+1))]) (Exit.then (vc P (sq []) Q) Q) a2 w:=by
    intro a2 hf2 hen he21
    have hz2:=hf2.size
    refine vX (rM (rA (dn ?_)))
    generalize ha3:Act.put _ (some (n+1)) _=a3
    have hf3:Fr (KW L n t) a a3:=by
     subst ha3
     exact (hf2.put _ (hs.kt _ zH)).put _ (by rintro ⟨_,h | h⟩<;>omega)
    have he3:a3.eval (.tmp (n+1))=.string ⟨(o.getD []).toArray⟩:=by subst ha3;exact zA
    have he31:a3.eval (.tmp 1)=a.eval (.tmp 1):=by subst ha3;exact zA
    clear ha3
    refine vS (w_flex (n:=n+2) (L:=L) (t:=t+8) (bs:=fun fx=>ze fx (o.getD [])) (hs.up zH zH zH) zH zH (by rw[hf3.size];omega) (hst.fr hs hf3 he31) he3 (fun hfx=>H.cstr (hF1 fx hs.no hfx) _ _ _) (fun _=>H.str hG1 _ _ _) hb ?_)
    exact fun a4 w4 hf4 hst4=>vN (vN (k a4 w4 (hf3.trans (hf4.mono (KW.mono zH zH))) hst4))
   have hva:a1.eval (.tmp v)=a.eval (.tmp v):=he1 v zH
   have h11:a1.eval (.tmp 1)=a.eval (.tmp 1):=he1 1 zH
   refine vX (rA (dn ?_))
   generalize ha2:Act.put a1 (some n) _=a2
   have hf2:Fr (KW L n t) a a2:=by subst ha2;exact hf1.put _ (by rintro ⟨_,h | h⟩<;>omega)
   have hz2:=hf2.size
   have he2:a2.eval (.tmp n)=.string ⟨#[]⟩:=by subst ha2;exact zE
   have he2v:a2.eval (.tmp v)=a.eval (.tmp v):=by subst ha2;exact zA
   have he21:a2.eval (.tmp 1)=a.eval (.tmp 1):=by subst ha2;exact zA
   clear ha2
   refine vS (vX (rM ?_))
   cases o with
   | none =>
    have hpv:a.eval (.tmp v)=.pointer none:=hp
    refine r_neNilP (ad:=none) hT (by simp (disch:=(try simp only[sP]);omega) only[eV,he2v,hpv]) ?_
    refine dn ?_
    refine vS (vC (t:=false) zA (fun h=>by cases h) (fun _=>?_))
    refine vK (vN ?_)
    refine fin _ ((hf2.put _ (hs.kt _ zH)).put _ (hs.kt _ zH)) ?_ ?_
    ·simp (disch:=(try simp only[sP]);omega) only[eV,he2]
     rfl
    ·exact zA
   | some l =>
    obtain ⟨q,hpv,hq,hqc⟩:=hp
    refine r_neNilP (ad:=some ⟨q,0,none⟩) hT (by simp (disch:=(try simp only[sP]);omega) only[eV,he2v,hpv]) ?_
    refine dn ?_
    refine vS (vC (t:=true) zA (fun _=>?_) (fun h=>by cases h))
    refine vR zS ?_
    refine rM ?_
    refine xe (ad:=⟨q,0,none⟩) (by simp (disch:=(try simp only[sP]);omega) only[eV,he2v,hpv]) ?_
    refine rL (b:=q) (o:=0) (v:=.string ⟨l.toArray⟩) zE hS hqc ?_
    refine rA (dn (vN ?_))
    refine fin _ ((((((hf2.put _ (hs.kt _ zH)).put _ (hs.kt _ zH)).put _ (hs.kt _ zH)).put _ (hs.kt _ zH)).put _ (hs.kt _ zH)).put _ (by rintro ⟨_,h | h⟩<;>omega)) ?_ ?_
    ·simp (disch:=(try simp only[sP]);omega) only[eV]
     rfl
    ·exact zA
  ·intro hlt a1 hf1 he1
   rw[if_neg hlt] at hb
   simp only[if_neg hlt] at k
   have hva:a1.eval (.tmp v)=a.eval (.tmp v):=he1 v zH
   have h11:a1.eval (.tmp 1)=a.eval (.tmp 1):=he1 1 zH
   refine w_flex (n:=n) (L:=L) (t:=t+8+x.nt 3) (bs:=fun fx=>xV fx o) (hs.up (Nat.le_refl _) zH zH) hv hv1 (by rw[hf1.size];omega) (hst.fr hs hf1 h11) hva (fun hfx=>H.cnstr (hF2 fx hs.no hfx) _ o _ _ hp) (fun _=>H.nstr hG2 _ o _ _ hp) hb ?_
   exact fun a4 w4 hf4 hst4=>vN (k a4 w4 (hf1.trans (hf4.mono (KW.mono zH zH))) hst4)
 | _=>exact absurd hr (by simp[Ty.Rep])
theorem wok_bytes (H:EnvW P E sb.T):(Ty.bytes).WOk P E W0 sb:=by
 intro G x ver fx L v n t b B a w xs cs d Q hok hs hv hv1 hn ht hst hh hr hb k
 simp only[Ty.okW,Bool.and_eq_true] at hok
 obtain ⟨hG,hF⟩:=Cx.ok_inv hok.1
 have hh':cs=[a.eval (.tmp v)]:=by simpa [Ty.Holds,Ty.tp,Ty.arr] using hh
 subst hh'
 cases d with
 | bytes o =>
  have hr':(Ty.nbytes).Rep W0 sb B [a.eval (.tmp v)] (.bytes o):=by cases o<;>simpa [Ty.Rep] using hr
  have hp:jA w W0.heap.size (a.eval (.tmp v)) o:=oct_of_rep hst.below hr'
  simp only[Ty.wr] at hb k
  simp only[Ty.wc]
  exact w_flex (bs:=fun fx=>xn fx (o.getD [])) hs hv hv1 ht hst rfl (fun hfx=>H.cocts (hF fx hs.no hfx) _ o _ _ hp) (fun _=>H.octs hG _ o _ _ hp) hb k
 | _=>exact absurd hr (by simp[Ty.Rep])
theorem wok_nbytes (H:EnvW P E sb.T):(Ty.nbytes).WOk P E W0 sb:=by
 intro G x ver fx L v n t b B a w xs cs d Q hok hs hv hv1 hn ht hst hh hr hb k
 simp only[Ty.okW,Bool.and_eq_true] at hok
 obtain ⟨hG,hF⟩:=Cx.ok_inv hok.1
 have hh':cs=[a.eval (.tmp v)]:=by simpa [Ty.Holds,Ty.tp,Ty.arr] using hh
 subst hh'
 cases d with
 | bytes o =>
  have hp:jA w W0.heap.size (a.eval (.tmp v)) o:=oct_of_rep hst.below hr
  simp only[Ty.wr] at hb k
  simp only[Ty.wc]
  exact w_flex (bs:=fun fx=>xz fx o) hs hv hv1 ht hst rfl (fun hfx=>H.cnocts (hF fx hs.no hfx) _ o _ _ hp) (fun _=>H.nocts hG _ o _ _ hp) hb k
 | _=>exact absurd hr (by simp[Ty.Rep])
end
theorem yG (f n:Nat):1<=(uvF f n).length:=by
 cases f with
 | zero=>simp[uvF]
 | succ f=>simp only[uvF];split<;>simp
theorem uvar_pos (n:Nat):1<=(uvar n).length:=yG 9 n
theorem yI (tags:List (Nat × List UInt8)):tags.length<=((tags.map qV).flatten).length:=by
 induction tags with
 | nil=>simp
 | cons x l ih =>
  have:=uvar_pos x.1
  simp only[List.map_cons,List.flatten_cons,List.length_cons,List.length_append,qV]
  omega
section
variable {W0 : World} {sb : Sb}
structure EnvI (P:Program) (E:Env):Prop where
 int:qu P E.tI=some .i64
 u32:qu P E.tW=some .u32
 mixed:P.follows .mixedOrders=true
 bytes:xo P E.tB E.tU8 1=true
 znew:E.zNew≠0->∀ w:World,qa P E.zNew #[] w fun v w'=>v=.agg #[.int .i32 0,.int .i32 0,.map none]/\Below w.heap.size w w'
 zsame:E.zSame≠0->∀ (m n:Int) (q:Option Nat) (w:World),qa P E.zSame #[.agg #[.int .i32 m,.int .i32 n,.map q],.agg #[.int .i32 0,.int .i32 0,.map none]] w fun r w'=>r=.bool (m==0&&(n==0&&q.isNone))/\Below w.heap.size w w'
theorem ownsRow_grow {e:Nat} (h:w.ownsRow B e s v n xs) (hg:Grow w w'):w'.ownsRow B e s v n xs:=by
 refine ⟨h.1,?_⟩
 rcases h.2 with hn | ⟨g,cap,cur,hv,hb,hh,r⟩
 ·exact .inl hn
 ·refine .inr ⟨g,cap,cur,hv,hb,?_,r⟩
  rw[hg.blockEq (Array.getElem?_eq_some_iff.1 hh).1 (fun _ h=>h)]
  exact hh
theorem kW {U:Gd} {e:Nat} (h:w.ownsG U e s v n xs) (hg:Grow w w'):w'.ownsG U e s v n xs :=
 ⟨ownsRow_grow h.own hg,fun b o hb=>⟨by rw[hg.blockEq (Array.getElem?_eq_some_iff.1 (h.kept b o hb).1).1 (fun _ h=>h)];exact (h.kept b o hb).1,(h.kept b o hb).2⟩⟩
theorem wy {e:Nat} (h:w.ownsRow B e s v n xs) (hb:Below w.heap.size w w'):w'.ownsRow B e s v n xs:=by
 refine ⟨h.1,?_⟩
 rcases h.2 with hn | ⟨g,cap,cur,hv,hb1,hh,r⟩
 ·exact .inl hn
 ·refine .inr ⟨g,cap,cur,hv,hb1,?_,r⟩
  rw[hb.block g (Array.getElem?_eq_some_iff.1 hh).1]
  exact hh
theorem ownsG_below {U:Gd} {e:Nat} (h:w.ownsG U e s v n xs) (hb:Below w.heap.size w w'):w'.ownsG U e s v n xs :=
 ⟨wy h.own hb,fun b o hg=>⟨by rw[hb.block b (Array.getElem?_eq_some_iff.1 (h.kept b o hg).1).1];exact (h.kept b o hg).1,(h.kept b o hg).2⟩⟩
theorem gg.mono {B':Nat} (h:gg w sb B v l) (hB:B'<=B):gg w sb B' v l:=by
 rcases h with h | ⟨c,o,cap,hv,hc,h⟩
 ·exact .inl h
 ·exact .inr ⟨c,o,cap,hv,hc.imp id (fun h=>by omega),h⟩
theorem xx.mono {w:World} {B B':Nat} {v:Value} {tags:List (Nat × List UInt8)} (h:xx w sb B v tags) (hB:B'<=B):xx w sb B' v tags:=by
 obtain ⟨h1,h0,h2⟩:=h
 refine ⟨h1,h0,?_⟩
 rcases h2 with h2 | ⟨q,es,clock,hv,hq,hs,hm,hb,hn,l,hl,hsz,he⟩
 ·exact .inl h2
 ·refine .inr ⟨q,es,clock,hv,by omega,hs,hm,hb,hn,l,hl,hsz,fun i x hx=>?_⟩
  obtain ⟨e,h1,h2,h3⟩:=he i x hx
  exact ⟨e,h1,h2,h3.mono hB⟩
section
variable {K : Nat → Prop}
theorem m_tagsA {TP TU:TypeId} {f pb po:Nat} {dv:Value} {S1:World->Prop} (HI:EnvI P E) (hd:a.eval (.tmp 1)=dv) (hp:a.eval (.tmp s)=.pointer (some ⟨pb,po,none⟩)) (hoff:qh P TU f=some off) (hlen:qa P E.tLen #[.pointer (some ⟨pb,po+off,none⟩)] w fun r w'=>r=.int .i64 (n:Int)/\S1 w') (hn:n<4294967296) (happ:∀ w1,S1 w1->qa P E.wUvarint #[dv,.int .u32 (n:Int)] w1 S) (ht:∀ d,t<=d->¬ K d) (hk1:¬ K 1) (h1:1<t) (hst:s<t) (hsz:t+9<=a.tmps.size) (k:∀ a' v' w',Fr K a a'->a'.eval (.tmp 1)=v'->S v' w'->Q .normal a' w'):
  vc P (rg [qd (t+1) (.tmp 1) E.tB,qd (t+2) (.tmp s) TP,jn (t+3) (.tmp (t+2)),xw (t+4) TU (.tmp (t+3)) f,xj (some (t+5)) E.tLen #[.tmp (t+4)] #[E.tTags] E.tI,
    vy (t+6) E.tI E.tW (.tmp (t+5)),zZ (t+7) .add E.tW (.const (.int .u32 0)) (.tmp (t+6)) E.tW E.tW,
    xj (some (t+8)) E.wUvarint #[.tmp (t+1),.tmp (t+7)] #[E.tB,E.tW] E.tB,qc 1 (.tmp (t+8)) E.tB]) Q a w:=by
 have hwr:IntKind.u32.wrap (n:Int)=(n:Int):=IntWalk.u32_in _ ⟨by omega,by omega⟩
 refine vR zS ?_
 refine rM (rM ?_)
 refine xe (ad:=⟨pb,po,none⟩) zA ?_
 refine rF (b:=pb) (o:=po) zE hoff ?_
 refine q8 (args:=#[.pointer (some ⟨pb,po+off,none⟩)]) ?_ hlen ?_
 ·simp only[lM]
  exact zE
 rintro r w1 ⟨rfl,hs1⟩
 refine qY (k:=.i64) (k':=.u32) (m:=n) HI.int HI.u32 zE ?_
 rw[hwr]
 refine z8 (k:=.u32) (m:=0) (n:=n) rfl zE ?_
 rw[Int.zero_add,hwr]
 refine q8 (args:=#[dv,.int .u32 (n:Int)]) ?_ (happ w1 hs1) ?_
 ·simp only[lM]
  simp (disch:=(try simp only[sP]);omega) only[eV,hd]
 intro v' w2 hs2
 refine rA (dn ?_)
 refine k _ v' w2 ?_ zE hs2
 exact (((((((((Fr.refl K a).put _ (ht _ zH)).put _ (ht _ zH)).put _ (ht _ zH)).put _ (ht _ zH)).put _ (ht _ zH)).put _ (ht _ zH)).put _ (ht _ zH)).put _ (ht _ zH)).put _ hk1
theorem m_tagsB {TP TU:TypeId} {f pb po:Nat} {dv:Value} (hd:a.eval (.tmp 1)=dv) (hp:a.eval (.tmp s)=.pointer (some ⟨pb,po,none⟩)) (hoff:qh P TU f=some off) (hc:qa P E.tEach #[.pointer (some ⟨pb,po+off,none⟩),dv] w S) (ht:∀ d,t<=d->¬ K d) (hk1:¬ K 1) (h1:1<t) (hst:s<t) (hsz:t+14<=a.tmps.size) (k:∀ a' v' w',Fr K a a'->a'.eval (.tmp 1)=v'->S v' w'->Q .normal a' w'):
  vc P (rg [qd (t+9) (.tmp s) TP,jn (t+10) (.tmp (t+9)),xw (t+11) TU (.tmp (t+10)) f,qd (t+12) (.tmp 1) E.tB,
    xj (some (t+13)) E.tEach #[.tmp (t+11),.tmp (t+12)] #[E.tTags,E.tB] E.tB,qc 1 (.tmp (t+13)) E.tB]) Q a w:=by
 refine vR zS ?_
 refine rM ?_
 refine xe (ad:=⟨pb,po,none⟩) zA ?_
 refine rF (b:=pb) (o:=po) zE hoff ?_
 refine rM ?_
 refine q8 (args:=#[.pointer (some ⟨pb,po+off,none⟩),dv]) ?_ hc ?_
 ·simp only[lM]
  simp (disch:=(try simp only[sP]);omega) only[eV,hd]
 intro v' w2 hs2
 refine rA (dn ?_)
 refine k _ v' w2 ?_ zE hs2
 exact ((((((Fr.refl K a).put _ (ht _ zH)).put _ (ht _ zH)).put _ (ht _ zH)).put _ (ht _ zH)).put _ (ht _ zH)).put _ hk1
end
theorem yJ:∀ (l:List (Nat × List UInt8)) (k:Nat) (p:List UInt8) (r:List (Nat × List UInt8)),(∀ x ∈ l,x.1<k)->(∀ x ∈ r,k<x.1)->qs k p (l++r)=l++(k,p)::r
 | [],k,p,[],_,_=>rfl
 | [],k,p,x::r,_,h=>by
  have:=h x zS
  simp[qs,this]
 | x::l,k,p,r,h1,h2=>by
  have:=h1 x zS
  simp only[List.cons_append,qs]
  rw[if_neg zH,if_neg zH,yJ l k p r (fun y hy=>h1 y (by simp[hy])) h2]
theorem knTags_mem {kt:List KX} {x:Nat × List UInt8} (h:x ∈ qG kt):∃ e ∈ kt,e.kw.k=x.1/\e.p=some x.2:=by
 unfold qG at h
 obtain ⟨e,he,hx⟩:=List.mem_filterMap.1 h
 cases hp:e.p with
 | none=>rw[hp] at hx;cases hx
 | some p =>
  rw[hp] at hx
  simp only[Option.map_some,Option.some.injEq] at hx
  subst hx
  exact ⟨e,he,rfl,hp⟩
theorem knTags_snoc (kt:List KX) (e:KX):qG (kt++[e])=qG kt++(match e.p with | some p=>[(e.kw.k,p)] | none=>[]):=by
 unfold qG
 rw[List.filterMap_append]
 cases hp:e.p<;>simp[hp]
theorem flatten_take' (l:List (Nat × List UInt8)) (i:Nat) (h:i<l.length):((l.take (i+1)).map qV).flatten=((l.take i).map qV).flatten++qV l[i]:=by
 rw[List.take_succ_eq_append_getElem h,List.map_append,List.flatten_append]
 simp
theorem flatten_take_le' (l:List (Nat × List UInt8)) (i:Nat):((l.take i).map qV).flatten.length<=((l.map qV).flatten).length:=by
 have:l=l.take i++l.drop i:=(List.take_append_drop i l).symm
 conv=>rhs;rw[this]
 rw[List.map_append,List.flatten_append,List.length_append]
 omega
theorem KW1.mono {t':Nat} (ht:t<=t'):∀ k,KW1 L n t k->KW1 L n t' k:=fun k h=>h.imp id (fun h=>⟨h.1,by omega⟩)
theorem KW1.kt (hnL:n<=L) (hLt:L<=t):∀ d,t<=d->¬ KW1 L n t d:=by
 rintro d hd (h | h)<;>omega
section
variable {pb po:Nat}
theorem m_asks (hfx:fx=true) {L n U:Nat} {rest:List Code}:∀ (kt:List KX) (t:Nat) (a:Act) (w:World) (ns:List Nat) (Q:Exit->Act->World->Prop),(∀ e ∈ kt,e.ok P E W0 x ver fx s pb po)->L<=t->n+1<=L->s<n->t+xd (kt.map (·.kw))<=a.tmps.size →
  a.eval (.tmp s)=.pointer (some ⟨pb,po,none⟩)->Below W0.heap.size W0 w->W0.heap.size<=U->U<=w.heap.size->ns.length+(qG kt).length+1<=big->w.ownsRow U E.tW 1 (a.eval (.tmp n)) ns.length (ns.map gm) →
  (∀ a' w',Fr (KW1 L n t) a a'->w'.ownsRow U E.tW 1 (a'.eval (.tmp n)) (ns++(qG kt).map (·.1)).length ((ns++(qG kt).map (·.1)).map gm)->Below U w w'->vc P (sq rest) Q a' w')->vc P (sq (kwAsks n (kt.map (·.kw)) t++rest)) Q a w
 | [],t,a,w,ns,Q,hok,hL,hn,hs,hsz,hp,hb,hU0,hU,hl,hown,k=>by
  simp only[List.map_nil,kwAsks,List.nil_append]
  exact k a w (Fr.refl _ _) (by simpa [qG] using hown) (Below.refl _ _)
 | e::kt,t,a,w,ns,Q,hok,hL,hn,hs,hsz,hp,hb,hU0,hU,hl,hown,k=>by
  simp only[List.map_cons,kwAsks,List.cons_append]
  simp only[xd,List.map_cons,List.sum_cons] at hsz
  have hkl:(if e.p.isSome then 1 else 0)+(qG kt).length=(qG (e::kt)).length:=by
   unfold qG
   cases hp:e.p<;>simp[hp];omega
  refine vS ((hok e zS).ask hfx L n t U a w ns _ hL hn hs zH hp hb hU zH hown ?_)
  intro a1 w1 hf1 hown1 hb1
  have hz1:=hb1.size
  have hle:(ns++if e.p.isSome then [e.kw.k] else []).length=ns.length+(if e.p.isSome then 1 else 0):=by cases e.p<;>simp
  refine m_asks hfx kt (t+e.kw.askT) a1 w1 _ Q (fun f hf=>hok f (by simp[hf])) zH hn hs (by rw[hf1.size];unfold xd;omega) (by rw[hf1.slot s (.inl hs)];exact hp) (hb.trans (hb1.mono hU0)) hU0 zH zH hown1 ?_
  intro a2 w2 hf2 hown2 hb2
  refine k a2 w2 (hf1.trans (hf2.mono (KW1.mono zH))) ?_ (hb1.trans hb2)
  have he:(ns++if e.p.isSome then [e.kw.k] else [])++(qG kt).map (·.1)=ns++(qG (e::kt)).map (·.1):=by
   unfold qG
   cases hp:e.p<;>simp[hp]
  rw[he] at hown2
  exact hown2
theorem m_chain {G:Nat->Option Obj} {L key k:Nat} {pl:List UInt8}:∀ (kt:List KX) (n t b:Nat) (a:Act) (w:World) (xs:List UInt8) (Q:Exit->Act->World->Prop),(∀ e ∈ kt,e.ok P E W0 x ver fx s pb po)->kt.Pairwise (fun e f=>e.kw.k<f.kw.k)->(k,pl) ∈ qG kt →
  WSl x L n t fx->s<n->s≠1->n+(kt.map (·.kw.casN)).sum<=L->t+zY (kt.map (·.kw))<=a.tmps.size->key<t->L<=key->a.eval (.tmp key)=.int .u32 (k:Int)->WSt P E W0 G x ver fx a w xs->a.eval (.tmp s)=.pointer (some ⟨pb,po,none⟩)->xs.length+(qV (k,pl)).length<=big →
  (∀ a' w',Fr (KW L n t) a a'->WSt P E W0 G x ver fx a' w' (xs++qV (k,pl))->Q .normal a' w')->vc P (gK E key (kt.map (·.kw)) n t b) Q a w
 | [],n,t,b,a,w,xs,Q,hok,has,hm,hs,hsn,hs1,hn,ht,hkt,hLk,hk,hst,hp,hb,kk=>by simp[qG] at hm
 | e::kt,n,t,b,a,w,xs,Q,hok,has,hm,hs,hsn,hs1,hn,ht,hkt,hLk,hk,hst,hp,hb,kk=>by
  have h1:=hs.one;have h2:=hs.nL;have h3:=hs.Lt
  have has':=List.pairwise_cons.1 has
  simp only[List.map_cons,List.sum_cons] at hn
  simp only[zY,List.map_cons,List.sum_cons] at ht
  simp only[List.map_cons,gK]
  refine vX ?_
  refine xG (k:=.u32) (m:=(k:Int)) (n:=(e.kw.k:Int)) zA rfl ?_
  refine rA (dn ?_)
  generalize hA:Act.put _ (some t) _=A
  have hf:Fr (KW L n t) a A:=by subst hA;exact ((Fr.refl _ a).put _ (hs.kt _ zH)).put _ (hs.kt _ zH)
  have he:∀ j,j<t->A.eval (.tmp j)=a.eval (.tmp j):=by intro j hj;subst hA;exact zE
  have hc:A.eval (.tmp t)=.bool ((k:Int)==(e.kw.k:Int)):=by subst hA;exact zE
  have hz:=hf.size
  clear hA
  have hst':=hst.fr hs hf (he 1 zH)
  have hmem:(k,pl) ∈ qG (e::kt):=hm
  refine vS (vC (t:=((k:Int)==(e.kw.k:Int))) hc ?_ ?_)
  ·intro hkk
   have hkk:k=e.kw.k:=by
    have:=eq_of_beq hkk
    omega
   have hpe:e.p=some pl:=by
    obtain ⟨f,hf1,hf2,hf3⟩:=knTags_mem hmem
    rcases List.mem_cons.1 hf1 with rfl | hf1
    ·exact hf3
    ·have:=has'.1 f hf1
     simp only at hf2
     omega
   rw[hkk] at hb kk
   refine (hok e zS).cas pl hpe G L n (t+2) b A w xs _ (hs.up (Nat.le_refl _) hs.nL zH) hsn hs1 zH (by rw[hz];omega) hst' (by rw[he s zH];exact hp) hb ?_
   intro a' w' hf2 hst2
   exact vN (kk a' w' (hf.trans (hf2.mono (KW.mono (Nat.le_refl _) zH))) hst2)
  ·intro hkk
   have hkk:k≠e.kw.k:=fun h=>by rw[h] at hkk;simp at hkk
   have hm':(k,pl) ∈ qG kt:=by
    unfold qG at hmem ⊢
    rw[List.filterMap_cons] at hmem
    cases hpe:e.p with
    | none=>simpa [hpe] using hmem
    | some q =>
     simp only[hpe,Option.map_some,List.mem_cons,Prod.mk.injEq] at hmem
     rcases hmem with ⟨h,_⟩ | h
     ·exact absurd h hkk
     ·exact h
   refine xi _ (m_chain kt (n+e.kw.casN) (t+2+e.kw.casT) (b+e.kw.casB) A w xs (fun ex a' w'=>ex=.normal/\Q .normal a' w') (fun f hf=>hok f (by simp[hf])) has'.2 hm' (hs.up zH zH zH) zH hs1 zH (by rw[hz];unfold zY;omega) zH hLk (by rw[he key zH];exact hk) hst' (by rw[he s zH];exact hp) hb ?_) ?_
   ·intro a' w' hf2 hst2
    exact ⟨rfl,kk a' w' (hf.trans (hf2.mono (KW.mono zH zH))) hst2⟩
   ·rintro ex a' w' ⟨rfl,hq⟩
    exact vN hq
end
def kD (G:Nat->Option Obj) (v:Value) (w:World):Nat->Option Obj:=fun b=>if v.ownBlock=some b then w.heap[b]? else G b
theorem keepRow_ok {w0:World} {U0:Nat} {dv:Value} {e2:TypeId} {m:Nat} {zs:List Value} (hne:e≠e2) (hown:w.ownsG ⟨U0,G⟩ e2 1 dv m xs) (hr:w.ownsRow U e 1 v n zs):w.ownsG ⟨U0,kD G v w⟩ e2 1 dv m xs:=by
 refine ⟨hown.own,fun b o hb=>?_⟩
 unfold kD at hb
 simp only at hb
 split at hb
 ·rename_i hv
  rcases hr.2 with ⟨rfl,_⟩ | ⟨g,cap,cur,rfl,_,h3,_⟩
  ·cases hv
  ·simp only[Value.ownBlock,Option.some.injEq] at hv
   subst hv
   rw[h3] at hb
   cases hb
   exact ⟨h3,fun cur' h=>by cases h;exact hne rfl⟩
 ·exact hown.kept b o hb
theorem gM {U0:Nat} {dv:Value} {e2:TypeId} {m:Nat} {zs:List Value} (hr:w.ownsRow U e 1 v n zs) (h:w'.ownsG ⟨U0,kD G v w⟩ e2 1 dv m xs):
  ∃ ad cap,v=.slice ad n cap/\∀ j u,zs[j]? = some u->∃ g,ad=some ⟨g,0,none⟩/\w'.cell? ⟨g,j,none⟩=some u:=by
 rcases hr.2 with ⟨rfl,rfl⟩ | ⟨g,cap,cur,rfl,hb,h3,h4,h5,h6,h7⟩
 ·refine ⟨none,0,rfl,fun j u hu=>?_⟩
  have:zs=[]:=List.eq_nil_of_length_eq_zero (by simpa using hr.1)
  subst this
  simp at hu
 ·refine ⟨some ⟨g,0,none⟩,cap,rfl,fun j u hu=>⟨g,rfl,?_⟩⟩
  have h8:=hr.cells (g:=g) rfl j u hu
  rw[Addr.add_lit,Nat.zero_add] at h8
  have h9:=(h.kept g (.cells cur e (0,0)) (by simp[kD,Value.ownBlock,h3])).1
  rw[World.cell?_of_block (w:=w) (w':=w') (a:=⟨g,j,none⟩) (by rw[h9,h3])]
  exact h8
theorem keepRow_back {w0:World} {U0:Nat} {dv dv0:Value} {e2:TypeId} {m m0:Nat} {zs xs0:List Value} (h0:w0.ownsG ⟨U0,G⟩ e2 1 dv0 m0 xs0) (hU:w0.heap.size<=U) (hr:w.ownsRow U e 1 v n zs) (h:w'.ownsG ⟨U0,kD G v w⟩ e2 1 dv m xs):w'.ownsG ⟨U0,G⟩ e2 1 dv m xs:=by
 refine ⟨h.own,fun b o hb=>?_⟩
 refine h.kept b o ?_
 unfold kD
 simp only
 rw[if_neg ?_]
 ·exact hb
 ·intro hv
  have h1:=(Array.getElem?_eq_some_iff.1 (h0.kept b o hb).1).1
  have h2:=(hr.lt b hv).1
  omega
theorem wTagsK_eq (E:Env) (x:Cx) (TP TU:TypeId) (s f n t b:Nat) (kt:List KWr) (fl:Nat) (h:x.fl=some fl):wTagsK E x TP TU s f n t b kt =
  [sq [rg [qd t (.tmp fl) E.tO],.cond (.tmp t) (sq (rg [qc n (.const (.slice none 0 0)) E.tU32s]::(kwAsks n kt (t+1) ++
   [rg [qd (t+1+xd kt) (.tmp 1) E.tB,qd (t+1+xd kt+1) (.tmp n) E.tU32s,xR (t+1+xd kt+2) .len #[.tmp (t+1+xd kt+1)] #[E.tU32s] E.tI,qd (t+1+xd kt+3) (.tmp s) TP,jn (t+1+xd kt+4) (.tmp (t+1+xd kt+3)),xw (t+1+xd kt+5) TU (.tmp (t+1+xd kt+4)) f,
    xj (some (t+1+xd kt+6)) E.tLen #[.tmp (t+1+xd kt+5)] #[E.tTags] E.tI,zZ (t+1+xd kt+7) .add E.tI (.tmp (t+1+xd kt+2)) (.tmp (t+1+xd kt+6)) E.tI E.tI,vy (t+1+xd kt+8) E.tI E.tW (.tmp (t+1+xd kt+7)),
    xj (some (t+1+xd kt+9)) E.wUvarint #[.tmp (t+1+xd kt),.tmp (t+1+xd kt+8)] #[E.tB,E.tW] E.tB,qc 1 (.tmp (t+1+xd kt+9)) E.tB],
    wLoop E E.tU32s n (t+1+xd kt+10) b (t+1+xd kt+17+zY kt) (sq [rg [jc (t+1+xd kt+14) E.tU32s (.tmp (t+1+xd kt+10)) (.tmp (t+1+xd kt+12)),kx (t+1+xd kt+15) E.tW (.tmp (t+1+xd kt+14)),qc (n+2) (.tmp (t+1+xd kt+15)) E.tW],
       rg [qd (t+1+xd kt+16) (.tmp (n+2)) E.tW],.block (b+2) (gK E (t+1+xd kt+16) kt (n+3) (t+1+xd kt+17) (b+3))]),
    rg [qd (t+1+xd kt+17+zY kt+1) (.tmp s) TP,jn (t+1+xd kt+17+zY kt+2) (.tmp (t+1+xd kt+17+zY kt+1)),xw (t+1+xd kt+17+zY kt+3) TU (.tmp (t+1+xd kt+17+zY kt+2)) f,qd (t+1+xd kt+17+zY kt+4) (.tmp 1) E.tB,
    xj (some (t+1+xd kt+17+zY kt+5)) E.tEach #[.tmp (t+1+xd kt+17+zY kt+3),.tmp (t+1+xd kt+17+zY kt+4)] #[E.tTags,E.tB] E.tB,qc 1 (.tmp (t+1+xd kt+17+zY kt+5)) E.tB]]))) .skip]]:=by
 unfold wTagsK
 rw[h]
 rfl
theorem kwT_sum:∀ kt:List KX,xd (kt.map (·.kw))+zY (kt.map (·.kw))=(kt.map fun e=>e.kw.askT+(2+e.kw.casT)).sum
 | []=>rfl
 | e::l=>by
  have ih:=kwT_sum l
  unfold xd zY at ih ⊢
  simp only[List.map_cons,List.sum_cons] at ih ⊢
  omega
theorem wok_nilK (H:EnvW P E sb.T) (HI:EnvI P E) {tg:Bool} {TP TU idx pb po m:Nat} {xs:List UInt8} {ds:List D} {kt:List KX} (hne:kt≠[]) (hok:(Flds.nil tg).okW P E x TU idx off m=true) (hs:WSl x L n t fx) (hsn:s<n) (hs1:s≠1) (hn:n+(3+(kt.map (·.kw.casN)).sum)<=L) (ht:t+(1+17+(kt.map fun e=>e.kw.askT+(2+e.kw.casT)).sum+1+5)<=a.tmps.size) (hst:WSt P E W0 G x ver fx a w xs) (hp:a.eval (.tmp s)=.pointer (some ⟨pb,po,none⟩)) (hc:qb W0 pb (po+off) cs) (hr:(Flds.nil tg).Rep W0 sb B cs ds tags) (hkx:KXs P E W0 x ver fx s pb po m kt tags) (hb:xs.length+((Flds.nil tg).wr fx ver ds (qG kt++tags)).length<=big) (k:∀ a' w',Fr (KW L n t) a a'->WSt P E W0 G x ver fx a' w' (xs++(Flds.nil tg).wr fx ver ds (qG kt++tags))->Q .normal a' w'):vc P (sq (wTagsK E x TP TU s idx n t b (kt.map (·.kw)))) Q a w:=by
 have h1:=hs.one;have h2:=hs.nL;have h3:=hs.Lt
 obtain ⟨hfl,hrow,hone,hneq,hk32⟩:=hkx.fl hne
 obtain ⟨f,hx⟩:=Option.isSome_iff_exists.1 hfl
 simp only[Flds.okW,hx,Option.isNone_some,Bool.false_or,Bool.and_eq_true,bne_iff_ne,ne_eq,beq_iff_eq] at hok
 obtain ⟨⟨⟨⟨rfl,hoff⟩,htl⟩,hte⟩,hu⟩:=hok
 cases ds with
 | cons d ds=>exact absurd hr (by simp[Flds.Rep])
 | nil =>
 simp only[Flds.Rep,if_true] at hr
 obtain ⟨v,rfl,htr0⟩:=hr
 have htr:=htr0.mono (Nat.zero_le B)
 have hcv:W0.cell? ⟨pb,po+off,none⟩=some v:=by have:=hc 0 v rfl;simpa using this
 have hflv:=hst.fl f hx
 have hfn:=hs.fl f hx
 have hT:xd (kt.map (·.kw))+zY (kt.map (·.kw))=(kt.map fun e=>e.kw.askT+(2+e.kw.casT)).sum:=kwT_sum kt
 rw[wTagsK_eq E x TP TU s idx n t b _ f hx]
 generalize hq1:xd (kt.map (·.kw))=q1 at *
 generalize hq2:zY (kt.map (·.kw))=q2 at *
 refine vS (vX (rM (dn ?_)))
 have hf0:Fr (KW L n t) a (a.put (some t) (a.eval (.tmp f))):=(Fr.refl _ a).put _ (hs.kt t (Nat.le_refl _))
 have hst0:=hst.fr hs hf0 (qj _ _ _ _ zH)
 have hz0:=hf0.size
 refine vS (vC (t:=fx) zA ?_ ?_)
 ·intro hfx
  subst hfx
  simp only[Flds.wr,if_true] at hb k
  have htb:=yI (qG kt++tags)
  simp only[xU,List.length_append] at hb htb
  have hup:=uvar_pos ((qG kt).length+tags.length)
  have hlt:(qG kt).length+tags.length<4294967296:=by unfold big at hb;omega
  refine vX (rA (dn ?_))
  generalize hA:Act.put _ (some n) _=A
  have hfA:Fr (KW L n t) a A:=by subst hA;exact hf0.put _ (by rintro ⟨_,h | h⟩<;>omega)
  have hA1:A.eval (.tmp 1)=a.eval (.tmp 1):=by subst hA;exact zE
  have hAn:A.eval (.tmp n)=.slice none 0 0:=by subst hA;exact zE
  have hzA:=hfA.size
  clear hA
  have hstA:=hst.fr hs hfA hA1
  have hpA:A.eval (.tmp s)=.pointer (some ⟨pb,po,none⟩):=by rw[hfA.slot s ⟨hs1,.inl hsn⟩];exact hp
  refine m_asks rfl (L:=L) (n:=n) (U:=w.heap.size) kt (t+1) A w [] _ hkx.ok zH zH hsn (by rw[hzA,hq1];omega) hpA hst.below hst.size (Nat.le_refl _) (by simp only[List.length_nil];omega) (by rw[hAn];exact World.ownsRow_nil _ _ _ _) ?_
  intro a1 w1 hf1 hown1 hb1
  have hz1:=hf1.size
  have hw1:=hb1.size
  simp only[List.nil_append] at hown1
  have hfa1:Fr (KW L n t) a a1:=hfA.trans (hf1.mono (fun j hj=>hj.2.imp id (fun h=>⟨h.1,by omega⟩)))
  have h11:a1.eval (.tmp 1)=a.eval (.tmp 1):=by rw[hf1.slot 1 (.inl zH),hA1]
  have hsl1:∀ j,j<n->a1.eval (.tmp j)=A.eval (.tmp j):=fun j hj=>hf1.slot j (.inl hj)
  have hownG:w1.ownsG ⟨W0.heap.size,kD G (a1.eval (.tmp n)) w1⟩ E.tU8 1 (a1.eval (.tmp 1)) xs.length (xs.map bv):=by
   rw[h11]
   exact keepRow_ok (w0:=w) (fun h=>hneq h) (ownsG_below hst.own hb1) hown1
  have hst1:WSt P E W0 (kD G (a1.eval (.tmp n)) w1) x ver true a1 w1 xs :=
   ⟨hst.below.trans (hb1.mono hst.size),hownG,by rw[hsl1 _ hs.vs.1];exact hstA.ver,fun g hg=>by rw[hsl1 _ (hs.fl g hg).1];exact hstA.fl g hg⟩
  have hp1:a1.eval (.tmp s)=.pointer (some ⟨pb,po,none⟩):=by rw[hsl1 s hsn];exact hpA
  obtain ⟨ad,cap,htv,_⟩:=gM hown1 hownG
  have hnl:((qG kt).map (·.1)).length=(qG kt).length:=by simp
  have hwa:IntKind.i64.wrap ((((qG kt).map (·.1)).length:Int)+(tags.length:Int))=(((qG kt).length+tags.length:Nat):Int):=by rw[hnl,wrap_i64 zH zH];omega
  have hwu:IntKind.u32.wrap (((qG kt).length+tags.length:Nat):Int)=(((qG kt).length+tags.length:Nat):Int):=IntWalk.u32_in _ ⟨by omega,by omega⟩
  generalize hG1:kD G (a1.eval (.tmp n)) w1=G1 at *
  refine vX (rM (rM ?_))
  refine xh (ad:=ad) (n:=((qG kt).map (·.1)).length) (c:=cap) (rB hrow) zA ?_
  refine rM ?_
  refine xe (ad:=⟨pb,po,none⟩) zA ?_
  refine rF (b:=pb) (o:=po) zE hoff ?_
  refine q8 (args:=#[.pointer (some ⟨pb,po+off,none⟩)]) ?_ (H.tlen htl W0 sb pb (po+off) v tags w1 rfl (hst1.below.cellS hcv) htr hst1.below) ?_
  ·simp only[lM]
   exact zE
  rintro r w2 ⟨rfl,hg2⟩
  refine z8 (k:=.i64) (m:=(((qG kt).map (·.1)).length:Int)) (n:=(tags.length:Int)) zE zE ?_
  rw[hwa]
  refine qY (k:=.i64) (k':=.u32) (m:=(((qG kt).length+tags.length:Nat):Int)) HI.int HI.u32 zE ?_
  rw[hwu]
  refine q8 (args:=#[a1.eval (.tmp 1),.int .u32 (((qG kt).length+tags.length:Nat):Int)]) ?_ (H.uvar hu ((qG kt).length+tags.length) ⟨W0.heap.size,G1⟩ w2 hlt _ xs (kW hst1.own hg2) (by have:=hg2.size;have:=hst1.size;show W0.heap.size<=_;omega) zH) ?_
  ·simp only[lM]
   exact zE
  intro v3 w3 hS3
  refine rA (dn ?_)
  generalize hB:Act.put _ (some 1) _=Bf
  have hfB:Fr (KW L (n+3) t) a1 Bf:=by
   subst hB
   exact ((((((((((((Fr.refl _ a1).put _ (by rintro ⟨_,h | h⟩<;>omega)).put _ (by rintro ⟨_,h | h⟩<;>omega)).put _ (by rintro ⟨_,h | h⟩<;>omega)).put _ (by rintro ⟨_,h | h⟩<;>omega)).put _ (by rintro ⟨_,h | h⟩<;>omega)).put _ (by rintro ⟨_,h | h⟩<;>omega)).put _ (by rintro ⟨_,h | h⟩<;>omega)).put _ (by rintro ⟨_,h | h⟩<;>omega)).put _ (by rintro ⟨_,h | h⟩<;>omega)).put _ (by rintro ⟨_,h | h⟩<;>omega)).put _ (fun h=>h.1 rfl))
  have hB1:Bf.eval (.tmp 1)=v3:=by subst hB;exact zE
  have hzB:=hfB.size
  clear hB
  have hst3:WSt P E W0 G1 x ver true Bf w3 (xs++uvar ((qG kt).length+tags.length)):=by
   have h4:=hst1.step (hs.up (n':=n+3) (t':=t) zH zH (Nat.le_refl _)) hfB hB1 (w':=w3) (bs:=uvar ((qG kt).length+tags.length)) ⟨hS3.1,(hg2.below.mono hst1.size).trans hS3.2⟩
   exact h4
  have hnB:Bf.eval (.tmp n)=.slice ad ((qG kt).map (·.1)).length cap:=by rw[hfB.slot n ⟨by omega,.inl zH⟩];exact htv
  have hpB:Bf.eval (.tmp s)=.pointer (some ⟨pb,po,none⟩):=by rw[hfB.slot s ⟨hs1,.inl zH⟩];exact hp1
  have hfaB:Fr (KW L n t) a Bf:=hfa1.trans (hfB.mono (KW.mono zH (Nat.le_refl _)))
  let I:Nat->Act->World->Prop:=fun i a' w'=>Fr (KW L n t) a a'/\WSt P E W0 G1 x ver true a' w' (xs++uvar ((qG kt).length+tags.length)++(((qG kt).take i).map qV).flatten)
  have stab:∀ i a' a2 w',I i a' w'->a2.tmps.size=a'.tmps.size->a2.defers=a'.defers->(∀ j,j<t+1+q1+10->a2.eval (.tmp j)=a'.eval (.tmp j))->I i a2 w':=by
   rintro i a' a2 w' ⟨hfr,hw⟩ hsz hdf hsl
   refine ⟨⟨hsz.trans hfr.size,hdf.trans hfr.defers,fun j hj=>?_⟩,⟨hw.below,by rw[hsl 1 zH];exact hw.own,by rw[hsl x.vs (by have:=hs.vs.1;omega)];exact hw.ver,fun g hg=>by rw[hsl g (by have:=(hs.fl g hg).1;omega)];exact hw.fl g hg⟩⟩
   rw[hsl j (by have:=hj.2;omega)]
   exact hfr.slot j hj
  refine vS (m_wloop hnB (rB hrow) (by rw[hnl];unfold big at hb;omega) zH zH (by rw[hzB,hz1,hzA];omega) I stab ⟨hfaB,by simpa using hst3⟩ ?_ ?_)
  ·intro i a2 w2' hi ⟨hfr2,hw2⟩ hcnt hsz2 ht02
   rw[hnl] at hi
   have hi':i<(qG kt).length:=hi
   obtain ⟨_,_,hadc,hcell⟩:=gM (U0:=W0.heap.size) (G:=G) (w':=w2') (dv:=a2.eval (.tmp 1)) (e2:=E.tU8) hown1 (by rw[hG1];exact hw2.own)
   rw[htv] at hadc
   cases hadc
   obtain ⟨g,rfl,hcl⟩:=hcell i (gm (qG kt)[i].1) (by simp[hi'])
   have hmem:(qG kt)[i] ∈ qG kt:=List.getElem_mem hi'
   have hone1:(gm (qG kt)[i].1).oneCell'=true:=rfl
   refine vX ?_
   refine qH (j:=i) (k:=.i64) (b:=g) (o:=0) (len:=((qG kt).map (·.1)).length) (cap:=cap) (rB hrow) zA zA (by rw[hnl];exact hi) ?_
   refine rL (b:=g) (o:=0+i*1) zE hone (by rw[Nat.zero_add,Nat.mul_one];exact hcl) ?_
   refine rA (dn (vX (rM (dn ?_))))
   generalize hC:Act.put _ (some (t+1+q1+16)) _=C
   have hfC:Fr (KW L (n+2) (t+1+q1+14)) a2 C:=by
    subst hC
    exact ((((Fr.refl _ a2).put _ (by rintro ⟨_,h | h⟩<;>omega)).put _ (by rintro ⟨_,h | h⟩<;>omega)).put _ (by rintro ⟨_,h | h⟩<;>omega)).put _ (by rintro ⟨_,h | h⟩<;>omega)
   have hC1:C.eval (.tmp 1)=a2.eval (.tmp 1):=by subst hC;exact zE
   have hCk:C.eval (.tmp (t+1+q1+16))=.int .u32 ((qG kt)[i].1:Int):=by
    subst hC
    simp (disch:=(try simp only[sP]);omega) only[eV]
    rfl
   have hzC:=hfC.size
   clear hC
   have hs2:WSl x L (n+2) (t+1+q1+14) true:=hs.up zH zH zH
   have hstC:=hw2.fr hs2 hfC hC1
   have htk:=flatten_take' (qG kt) i hi'
   have hle:=flatten_take_le' (qG kt) (i+1)
   rw[htk,List.length_append] at hle
   have heta:(qV ((qG kt)[i].1,(qG kt)[i].2)).length=(qV (qG kt)[i]).length:=rfl
   simp only[List.map_append,List.flatten_append,List.length_append] at hb
   refine vS (qk (m_chain (G:=G1) (L:=L) (key:=t+1+q1+16) (k:=(qG kt)[i].1) (pl:=(qG kt)[i].2) kt (n+3) (t+1+q1+17) (b+2+1) C w2' _ _ hkx.ok hkx.asc hmem (hs.up zH zH zH) zH hs1 zH (by rw[hq2,hzC,hsz2,hzB,hz1,hzA];omega) zH zH hCk hstC (by rw[hfC.slot s ⟨hs1,.inl zH⟩,hfr2.slot s ⟨hs1,.inl hsn⟩];exact hp) (by simp only[List.length_append];omega) ?_))
   intro a3 w3' hf3 hst3'
   refine vN ⟨⟨(hfr2.trans (hfC.mono (KW.mono zH zH))).trans (hf3.mono (KW.mono zH zH)),?_⟩,?_,?_,?_,?_⟩
   ·rw[htk]
    simpa [List.append_assoc] using hst3'
   ·rw[hf3.slot _ ⟨by omega,.inr ⟨by omega,by omega⟩⟩,hfC.slot _ ⟨by omega,.inr ⟨by omega,by omega⟩⟩]
   ·rw[hf3.slot _ ⟨by omega,.inr ⟨by omega,by omega⟩⟩,hfC.slot _ ⟨by omega,.inr ⟨by omega,by omega⟩⟩]
   ·rw[hf3.size,hzC]
   ·rw[hf3.slot _ ⟨by omega,.inr ⟨by omega,by omega⟩⟩,hfC.slot _ ⟨by omega,.inr ⟨by omega,by omega⟩⟩]
  ·rintro a2 w2' ⟨hfr2,hw2⟩
   rw[hnl,List.take_length] at hw2
   have hp2:a2.eval (.tmp s)=.pointer (some ⟨pb,po,none⟩):=by rw[hfr2.slot s ⟨hs1,.inl hsn⟩];exact hp
   have hz2:=hfr2.size
   simp only[List.map_append,List.flatten_append,List.length_append] at hb
   refine vX (rM ?_)
   refine xe (ad:=⟨pb,po,none⟩) zA ?_
   refine rF (b:=pb) (o:=po) zE hoff ?_
   refine rM ?_
   refine q8 (args:=#[.pointer (some ⟨pb,po+off,none⟩),a2.eval (.tmp 1)]) ?_ (H.teach hte W0 sb pb (po+off) v tags w2' rfl (hw2.below.cellS hcv) htr hw2.below G1 _ _ hw2.own (own_ne hw2.own.own (qi hcv)) (by simp only[List.length_append];omega)) ?_
   ·simp only[lM]
    exact zE
   intro v4 w4 hS4
   refine rA (dn ?_)
   generalize hD:Act.put _ (some 1) _=Df
   have hfD:Fr (KW L n t) a2 Df:=by
    subst hD
    exact ((((((Fr.refl _ a2).put _ (hs.kt _ zH)).put _ (hs.kt _ zH)).put _ (hs.kt _ zH)).put _ (hs.kt _ zH)).put _ (hs.kt _ zH)).put _ hs.k1
   have hD1:Df.eval (.tmp 1)=v4:=by subst hD;exact zE
   clear hD
   have hst4:=hw2.step hs hfD hD1 hS4
   refine vN (vN (vN (k Df w4 (hfr2.trans hfD) ?_)))
   have hback:w4.ownsG ⟨W0.heap.size,G⟩ E.tU8 1 (Df.eval (.tmp 1)) _ _:=keepRow_back hst.own (Nat.le_refl _) hown1 (by rw[hG1];exact hst4.own)
   have hfin:WSt P E W0 G x ver true Df w4 _:=⟨hst4.below,hback,hst4.ver,hst4.fl⟩
   simpa [xU,List.append_assoc] using hfin
 ·intro hfx
  subst hfx
  refine vK (vN (vN (k _ w hf0 ?_)))
  simpa [Flds.wr] using hst0
end
end
section
section
variable {ops : List Oper} {S : World → Prop}
theorem d_nilC {i d:Nat} {x:Operand} {ty:TypeId} {p af g} {ad:Addr} {r:List (Nat × Bool)} (ho:ops[i]? = some ⟨some d,.nilCheck x,ty,p,af,g⟩) (hw:kq ops a ⟨some d,.nilCheck x,ty,p,af,g⟩=true) (hx:a.eval x=.pointer (some ad)) (hS:S w) (h:qJ P ops Q S r (a.put (some d) (.pointer (some ad))) w):qJ P ops Q S ((i,true)::r) a w :=
 ⟨_,.pointer (some ad),ho,.inl ⟨hw,fun w' _=>by simp[execOp,hx]⟩,hS,h⟩
end
section
variable {l : Nat} {J : Act → World → Prop} {c : Code} {r : List Code}
theorem vQ (hx:findLabel c l=none) (hr:r≠[]) (h:qU P l J (sq r) Q):qU P l J (sq (c::r)) Q:=by
 cases r with
 | nil=>exact absurd rfl hr
 | cons d r=>exact vcFrom_next hx h
theorem vcFrom_lab (hr:r≠[]) (h:∀ a w,J a w->vc P (sq r) Q a w):qU P l J (sq (.label l::r)) Q:=by
 cases r with
 | nil=>exact absurd rfl hr
 | cons d r=>exact vcFrom_here h
theorem vc_label' (h:Q .normal a w):vc P (.label l) Q a w:=h
theorem vc_goto' (h:Q (.goto l) a w):vc P (.goto l) Q a w:=h
end
attribute [local irreducible] vc rO_ qz qP qJ
def freeP (ap:List (Nat × Nat)) (ops:Array Oper) (listed:Array Bool) (i:Nat):Bool :=
 decide (i<ops.size)&&(List.range ops.size).all fun j=>j==i||listed.getD j true||match ops[j]? with
  | some oj=>oj.after.any (fun e=>Region.binds .any e&&e.on==i)||ap.contains (i,j)
  | none=>true
def ordP (ap:List (Nat × Nat)) (ops:Array Oper):List (Nat × Bool)->Array Bool->Bool
 | [],listed=>(Region.ready .any ops listed).isEmpty
 | (i,true)::r,listed=>(Region.ready .any ops listed).contains i&&freeP ap ops listed i&&ordP ap ops r (listed.setIfInBounds i true)
 | (i,false)::r,listed=>decide (Region.ready .any ops listed=[i])&&ordP ap ops r (listed.setIfInBounds i true)
theorem freeP_ok {ap:List (Nat × Nat)} {ops:Array Oper} (hap:∀ p ∈ ap,∀ x y,ops[p.1]? = some x->ops[p.2]? = some y->x.apart ops y=true) {listed:Array Bool} {i:Nat} (h:freeP ap ops listed i=true):Region.free .any ops listed i=true:=by
 unfold freeP at h
 unfold Region.free
 simp only[Bool.and_eq_true,decide_eq_true_eq] at h
 obtain ⟨hi,h⟩:=h
 rw[Array.getElem?_eq_getElem hi]
 simp only[List.all_eq_true] at h ⊢
 intro j hj
 have:=h j hj
 revert this
 cases ho:ops[j]? with
 | none=>simp
 | some oj =>
  simp only[Bool.or_eq_true]
  rintro (h | h | h)
  ·exact .inl h
  ·exact .inr (.inl h)
  ·exact .inr (.inr (hap (i,j) (by simpa using h) _ _ (Array.getElem?_eq_getElem hi) ho))
theorem gH {ap:List (Nat × Nat)} {ops:Array Oper} (hap:∀ p ∈ ap,∀ x y,ops[p.1]? = some x->ops[p.2]? = some y->x.apart ops y=true):∀ (l:List (Nat × Bool)) (listed:Array Bool),ordP ap ops l listed=true->ordB ops l listed=true
 | [],listed,h=>h
 | (i,true)::r,listed,h=>by
  simp only[ordP,ordB,Bool.and_eq_true] at h ⊢
  exact ⟨⟨h.1.1,freeP_ok hap h.1.2⟩,gH hap r _ h.2⟩
 | (i,false)::r,listed,h=>by
  simp only[ordP,ordB,Bool.and_eq_true] at h ⊢
  exact ⟨h.1,gH hap r _ h.2⟩
theorem tne {x y:Nat} (h:x≠y):¬ (@Eq Tmp x y):=h
theorem noPanic {c:Code} (h:vc P c (fun e a w=>(∀ k,e≠.panic k)/\Q e a w) a w):vc P c Q a w:=xi _ h (fun e a w h=>h.2)
theorem own_form (h:w.ownsRow U e 1 v n xs):∃ ad cap,v=.slice ad n cap/\n<=cap:=by
 rcases h.2 with ⟨rfl,rfl⟩ | ⟨g,cap,cur,rfl,_,_,h4,_⟩
 ·exact ⟨none,0,rfl,Nat.le_refl _⟩
 ·exact ⟨_,cap,rfl,h4⟩
theorem own_cut {m:Nat} (h:w.ownsRow U e 1 (.slice ad n cap) n xs) (hm:m<=n):w.ownsRow U e 1 (.slice ad m cap) m (xs.take m):=by
 refine ⟨by rw[List.length_take,h.1];omega,?_⟩
 rcases h.2 with ⟨h1,rfl⟩ | ⟨g,cap',cur,h1,h2,h3,h4,h5,h6,h7⟩
 ·cases h1
  have:m=0:=by omega
  subst this
  exact .inl ⟨rfl,rfl⟩
 ·cases h1
  refine .inr ⟨g,_,cur,rfl,h2,h3,by omega,h5,h6,?_⟩
  rw[← h7,List.take_take]
  congr 1
  omega
section
variable {W0 : World} {sb : Sb}
theorem w_put (H:EnvW P E sb.T) (HI:EnvI P E) {n0:Nat} {xs ys:List UInt8} (hu:E.wUvarint≠0) (hs:WSl x L n0 t fx) (hsz:t+9<=a.tmps.size) (hnt:n<t) (hst:WSt P E W0 G x ver fx a w (xs++ys)) (hn:a.eval (.tmp n)=.int .i64 (xs.length:Int)) (hb:xs.length+ys.length<=big) (hb2:xs.length+(uvar ys.length).length<=big) (kk:∀ a' w',Fr (KW L n0 t) a a'->WSt P E W0 G x ver fx a' w' (xs++uvar ys.length)->Q .normal a' w'):vc P (kwPut E n t) Q a w:=by
 have h1:=hs.one;have h2:=hs.nL;have h3:=hs.Lt
 have hbig:big<=2147483000:=Nat.le_refl _
 obtain ⟨ad,cap,hv,hcap⟩:=own_form hst.own.own
 simp only[List.length_append] at hv hcap
 have hsl:=rB HI.bytes
 unfold kwPut
 refine noPanic ?_
 refine vc_runD [(0,true),(1,true),(2,true),(3,true),(4,true),(5,true),(6,true),(7,true),(8,false),(9,false)] (fun _=>True) HI.mixed (by kernel_rfl) rfl (gH (ap:=[(0,1),(0,3),(0,4),(0,5),(0,6),(0,7),(0,8),(1,3),(1,4),(1,5),(1,6),(1,7),(1,8),(2,3),(2,4),(2,5),(2,6),(2,7),(3,4),(3,6),(3,7),(3,8),(4,6),(4,7),(4,8),(5,7),(5,8),(6,8)]) ?_ _ _ (by kernel_rfl)) (fun c _ _ _ h=>absurd rfl (h.1 c)) ?_
 ·simp only[List.forall_mem_cons,List.mem_nil_iff,false_imp_iff,implies_true,and_true,List.getElem?_toArray,List.getElem?_cons_succ,List.getElem?_cons_zero,Option.some.injEq]
  repeat' apply And.intro
  all_goals (rintro x y rfl rfl;simp[Oper.apart,Oper.looksAt,Op.operands,Call.operands]<;>((repeat' apply And.intro)<;>exact tne zH))
 refine dP rfl rfl rfl (wN rfl) (by first | omega | (simp only[zP];omega)) trivial (fun w' _=>rM (dn ⟨rfl,rfl,rfl⟩)) ?_
 refine dP rfl rfl rfl (wN rfl) (by first | omega | (simp only[zP];omega)) trivial (fun w' _=>rM (dn ⟨rfl,rfl,rfl⟩)) ?_
 refine dP (v:=.slice ad xs.length cap) rfl rfl rfl (wN rfl) (by first | omega | (simp only[zP];omega)) trivial (fun w' _=>kC 0 xs.length cap (ad:=ad) (len:=xs.length+ys.length) (cap:=cap) hsl zA rfl ⟨.i64,zA⟩ rfl (Nat.zero_le _) zH (Nat.le_refl _) (dn ⟨rfl,by cases ad<;>simp[Addr.add_zero'],rfl⟩)) ?_
 refine dP rfl rfl rfl (wN rfl) (by first | omega | (simp only[zP];omega)) trivial (fun w' _=>rM (dn ⟨rfl,rfl,rfl⟩)) ?_
 refine dP rfl rfl rfl (wN rfl) (by first | omega | (simp only[zP];omega)) trivial (fun w' _=>rM (dn ⟨rfl,rfl,rfl⟩)) ?_
 refine dP rfl rfl rfl (wN rfl) (by first | omega | (simp only[zP];omega)) trivial (fun w' _=>kC xs.length (xs.length+ys.length) cap (ad:=ad) (len:=xs.length+ys.length) (cap:=cap) hsl zA ⟨.i64,zA⟩ ⟨rfl,rfl⟩ rfl zH hcap (Nat.le_refl _) (dn ⟨rfl,rfl,rfl⟩)) ?_
 rw[show xs.length+ys.length-xs.length=ys.length by omega]
 generalize (if cap=xs.length then ad else ad.map (·.add (xs.length*1)))=ad2
 refine dP rfl rfl rfl (wN rfl) (by first | omega | (simp only[zP];omega)) trivial (fun w' _=>xh (ad:=ad2) (n:=ys.length) (c:=cap-xs.length) hsl zE (dn ⟨rfl,rfl,rfl⟩)) ?_
 refine dP rfl rfl rfl (wN rfl) (by first | omega | (simp only[zP];omega)) trivial (fun w' _=>qY (k:=.i64) (k':=.u32) (m:=(ys.length:Int)) HI.int HI.u32 zE (dn ⟨rfl,rfl,rfl⟩)) ?_
 rw[show IntKind.u32.wrap (ys.length:Int)=(ys.length:Int) from IntWalk.u32_in _ ⟨by omega,by omega⟩]
 have hbw:Below w.heap.size w { w with drawn:=w.drawn+1 }:=⟨rfl,rfl,rfl,Nat.le_refl _,fun _ _=>rfl⟩
 have hcut:World.ownsG { w with drawn:=w.drawn+1 } ⟨W0.heap.size,G⟩ E.tU8 1 (.slice ad xs.length cap) xs.length (xs.map bv):=by
  have h0:=ownsG_below hst.own hbw
  rw[List.length_append,hv] at h0
  refine ⟨?_,h0.kept⟩
  have:=own_cut h0.own (m:=xs.length) zH
  rwa [List.map_append,List.take_left' zS] at this
 refine qw rfl (wN rfl) ?_
 refine q8 (args:=#[.slice ad xs.length cap,.int .u32 (ys.length:Int)]) ?_ (H.uvar hu ys.length ⟨W0.heap.size,G⟩ _ zH _ xs hcut hst.size hb2) ?_
 ·simp only[lM]
  exact zE
 intro v' w' hS
 refine dn (qv trivial ?_)
 refine qw rfl (wN rfl) ?_
 refine rA ?_
 refine dn (qv trivial (xI ?_))
 refine ⟨(fun _ h=>by cases h),?_⟩
 generalize hA:Act.put _ (some 1) _=A
 have hf:Fr (KW L n0 t) a A:=by
  subst hA
  exact ((((((((((Fr.refl _ a).put _ (hs.kt _ zH)).put _ (hs.kt _ zH)).put _ (hs.kt _ zH)).put _ (hs.kt _ zH)).put _ (hs.kt _ zH)).put _ (hs.kt _ zH)).put _ (hs.kt _ zH)).put _ (hs.kt _ zH)).put _ (hs.kt _ zH)).put _ hs.k1
 have hA1:A.eval (.tmp 1)=v':=by subst hA;exact zE
 clear hA
 refine kk A w' hf ⟨hst.below.trans ((hbw.mono hst.size).trans hS.2),by rw[hA1];exact hS.1,by rw[hf.slot _ ⟨hs.vs.2,.inl hs.vs.1⟩];exact hst.ver,fun f hh=>by rw[hf.slot _ ⟨(hs.fl f hh).2,.inl (hs.fl f hh).1⟩];exact hst.fl f hh⟩
theorem w_uv (H:EnvW P E sb.T) {xs:List UInt8} (hu:E.wUvarint≠0) (hk:k<4294967296) (hs:WSl x L n t fx) (hsz:t+2<=a.tmps.size) (hst:WSt P E W0 G x ver fx a w xs) (hb:xs.length+(uvar k).length<=big) (kk:∀ a' w',Fr (KW L n t) a a'->WSt P E W0 G x ver fx a' w' (xs++uvar k)->Q .normal a' w'):vc P (kwUv E k t) Q a w:=by
 have h1:=hs.one;have h2:=hs.nL;have h3:=hs.Lt
 refine vR zS ?_
 refine rM ?_
 refine q8 (args:=#[a.eval (.tmp 1),.int .u32 (k:Int)]) ?_ (H.uvar hu k ⟨W0.heap.size,G⟩ w hk _ xs hst.own hst.size hb) ?_
 ·simp only[List.map_toArray,List.map_cons,List.map_nil,u32]
  exact zE
 intro v' w' hS
 refine rA (dn ?_)
 have hf:∀ v1 v2 v3,Fr (KW L n t) a (((a.put (some t) v1).put (some (t+1)) v2).put (some 1) v3):=fun _ _ _=>(((Fr.refl _ a).put _ (hs.kt _ (Nat.le_refl _))).put _ (hs.kt _ zH)).put _ hs.k1
 exact kk _ w' (hf _ _ _) (hst.step hs (hf _ _ _) zE hS)
theorem w_sized (H:EnvW P E sb.T) (HI:EnvI P E) {m lb:Nat} {xs pl:List UInt8} {first:Code} {body:List Code} {I:Value->(Nat->Option Obj)->Prop} (hu:E.wUvarint≠0) (hk:k<4294967296) (hs:WSl x L n t fx) (hn:n+3<=L) (hsz:t+19+m<=a.tmps.size) (hfl:findLabel first lb=none) (hst:WSt P E W0 G x ver fx a w xs) (hb:xs.length+(qV (k,pl)).length<=big) (hfirst:∀ Q1:Exit->Act->World->Prop,(∀ a1 w1 u G',Fr (KW L n t) a a1->a1.eval (.tmp n)=u->WSt P E W0 G' x ver fx a1 w1 xs->I u G'->Q1 .normal a1 w1)->vc P first Q1 a w) (hbody:∀ (u:Value) (G':Nat->Option Obj) (a1:Act) (w1:World) (ys:List UInt8) (Q1:Exit->Act->World->Prop),I u G'->Fr (KW L n t) a a1->a1.eval (.tmp n)=u->WSt P E W0 G' x ver fx a1 w1 ys->ys.length+pl.length<=big →
   (∀ a2 w2,Fr (KW L (n+3) (t+8)) a1 a2->WSt P E W0 G' x ver fx a2 w2 (ys++pl)->Q1 .normal a2 w2)->vc P (sq body) Q1 a1 w1) (hback:∀ u G' a' w' ys,I u G'->WSt P E W0 G' x ver fx a' w' ys->WSt P E W0 G x ver fx a' w' ys) (kk:∀ a' w',Fr (KW L n t) a a'->WSt P E W0 G x ver fx a' w' (xs++qV (k,pl))->Q .normal a' w'):
  vc P (kwSized E first k lb n t body m) Q a w:=by
 unfold kwSized
 have h1:=hs.one;have h2:=hs.nL;have h3:=hs.Lt
 have hbig:big<=2147483000:=Nat.le_refl _
 simp only[qV,List.length_append] at hb
 have hup:=uvar_pos k
 have hs3:WSl x L (n+3) (t+8) fx:=hs.up zH zH zH
 have ht0:∀ d,t<=d->¬ KW L n t d:=hs.kt
 have hn0:∀ d,n<=d->d<L->¬ KW L n t d:=by rintro d hd hd2 ⟨_,h | h⟩<;>omega
 -- the end
 have tail:∀ (u:Value) (G':Nat->Option Obj) (z:Bool) (a1:Act) (w1:World) (ys:List UInt8) (Q1:Exit->Act->World->Prop),I u G'->Fr (KW L n t) a a1->a1.eval (.tmp n)=u->a1.eval (.tmp (n+1))=.bool z->(z=false->a1.eval (.tmp (n+2))=.int .i64 (ys.length:Int))->WSt P E W0 G' x ver fx a1 w1 ys->ys.length+pl.length<=big->(z=false->ys.length+(uvar pl.length).length<=big) →
   (z=true->∀ a2 w2,Fr (KW L n t) a a2->WSt P E W0 G' x ver fx a2 w2 (ys++pl)->Q1 .normal a2 w2) →
   (z=false->∀ a2 w2,Fr (KW L n t) a a2->a2.eval (.tmp n)=u->a2.eval (.tmp (n+1))=.bool true->WSt P E W0 G' x ver fx a2 w2 (ys++uvar pl.length)->Q1 (.goto lb) a2 w2) →
   vc P (sq (body++[rg [qd (t+8+m) (.tmp (n+1)) E.tO,oUn (t+9+m) .not E.tO (.tmp (t+8+m)) E.tO],
    .cond (.tmp (t+9+m)) (sq [kwPut E (n+2) (t+10+m),rg [qc (n+1) (.const (.bool true)) E.tO],.goto lb]) .skip])) Q1 a1 w1:=by
  intro u G' z a1 w1 ys Q1 hI hf1 e0 e1 e2 hst1 hb1 hb2 kn kg
  have hz1:=hf1.size
  refine zw (hbody u G' a1 w1 ys _ hI hf1 e0 hst1 hb1 ?_)
  intro a2 w2 hf2 hst2
  have hz2:=hf2.size
  show vc P (sq _) Q1 a2 w2
  have hf2':Fr (KW L n t) a a2:=hf1.trans (hf2.mono (KW.mono zH zH))
  have g0:a2.eval (.tmp n)=u:=by rw[hf2.slot n ⟨by omega,.inl zH⟩];exact e0
  have g1:a2.eval (.tmp (n+1))=.bool z:=by rw[hf2.slot (n+1) ⟨by omega,.inl zH⟩];exact e1
  have g2:z=false->a2.eval (.tmp (n+2))=.int .i64 (ys.length:Int):=fun h=>by rw[hf2.slot (n+2) ⟨by omega,.inl zH⟩];exact e2 h
  refine vX (rM ?_)
  refine zG (b:=z) zA ?_
  refine dn ?_
  generalize hA:Act.put _ (some (t+9+m)) _=A
  have hfA:Fr (KW L (n+3) (t+8)) a2 A:=by
   subst hA
   exact ((Fr.refl _ a2).put _ (hs3.kt _ zH)).put _ (hs3.kt _ zH)
  have hA9:A.eval (.tmp (t+9+m))=.bool (!z):=by subst hA;exact zE
  have hA1:A.eval (.tmp 1)=a2.eval (.tmp 1):=by subst hA;exact zE
  have hzA:=hfA.size
  clear hA
  have hstA:=hst2.fr hs3 hfA hA1
  have hfA':Fr (KW L n t) a A:=hf2'.trans (hfA.mono (KW.mono zH zH))
  refine vS (vC hA9 ?_ ?_)
  ·intro hz
   have hz:z=false:=by simpa using hz
   refine vS (w_put H HI (n0:=n+3) hu (hs3.up (Nat.le_refl _) zH zH) (by rw[hzA,hz2,hz1];omega) zH hstA (by rw[hfA.slot (n+2) ⟨by omega,.inl zH⟩];exact g2 hz) hb1 (hb2 hz) ?_)
   intro a3 w3 hf3 hst3
   have hz3:=hf3.size
   show vc P (sq _) _ a3 w3
   refine vX (rA (dn ?_))
   refine vS (vc_goto' ?_)
   have hf4:Fr (KW L n t) a (a3.put (some (n+1)) (a3.eval (.const (.bool true)))):=(hfA'.trans (hf3.mono (KW.mono zH zH))).put _ (hn0 _ zH zH)
   refine kg hz _ w3 hf4 ?_ ?_ (hst3.fr hs ((Fr.refl _ a3).put _ (hn0 _ zH zH)) zE)
   ·rw[qj _ _ _ _ zH,hf3.slot n ⟨by omega,.inl zH⟩,hfA.slot n ⟨by omega,.inl zH⟩]
    exact g0
   ·rw[qE _ _ _ zH]
    rfl
  ·intro hz
   have hz:z=true:=by simpa using hz
   exact vK (vN (kn hz A w2 hfA' hstA))
 refine vc_scope lb (fun a' w'=>∃ u G',I u G'/\Fr (KW L n t) a a'/\a'.eval (.tmp n)=u/\a'.eval (.tmp (n+1))=.bool true/\WSt P E W0 G' x ver fx a' w' (xs++uvar k++uvar pl.length)) ?_ ?_
 ·simp only[List.cons_append,List.nil_append]
  refine vS (hfirst _ ?_)
  intro a1 w1 u G' hf1 e1 hst1 hI
  have hz1:=hf1.size
  refine vS (w_uv H hu hk (hs.up (n':=n+1) (t':=t+4) zH zH zH) (by rw[hz1];omega) hst1 zH ?_)
  intro a2 w2 hf2 hst2
  have hz2:=hf2.size
  show vc P (sq _) _ a2 w2
  refine vX (rA (dn ?_))
  obtain ⟨ad,cap,hv,hcap⟩:=own_form hst2.own.own
  refine vX (rM ?_)
  refine xh (ad:=ad) (n:=(xs++uvar k).length) (c:=cap) (rB HI.bytes) zA ?_
  refine rA (dn ?_)
  generalize hA:Act.put _ (some (n+2)) _=A
  have hfA:Fr (KW L n t) a2 A:=by
   subst hA
   exact ((((Fr.refl _ a2).put _ (hn0 _ zH zH)).put _ (ht0 _ zH)).put _ (ht0 _ zH)).put _ (hn0 _ zH zH)
  have hA1:A.eval (.tmp 1)=a2.eval (.tmp 1):=by subst hA;exact zE
  have hAn:A.eval (.tmp n)=u:=by
   have:A.eval (.tmp n)=a2.eval (.tmp n):=by subst hA;exact zE
   rw[this,hf2.slot n ⟨by omega,.inl zH⟩]
   exact e1
  have hAs:A.eval (.tmp (n+1))=.bool false:=by subst hA;exact zE
  have hAl:A.eval (.tmp (n+2))=.int .i64 ((xs++uvar k).length:Int):=by subst hA;exact zE
  clear hA
  have hstA:=hst2.fr hs hfA hA1
  refine vS (vc_label' ?_)
  show vc P (sq _) _ A w2
  refine tail u G' false A w2 (xs++uvar k) _ hI ((hf1.trans (hf2.mono (KW.mono zH zH))).trans hfA) hAn hAs (fun _=>hAl) hstA (by simp only[List.length_append];omega) (fun _=>by simp only[List.length_append];omega) (fun h=>by cases h) ?_
  intro _ a3 w3 hf3 g0 g1 hst3
  exact ⟨rfl,u,G',hI,hf3,g0,g1,hst3⟩
 ·simp only[List.cons_append,List.nil_append]
  refine vQ hfl zS (vQ rfl zS (vQ rfl zS (vQ rfl zS (vcFrom_lab zS ?_))))
  rintro a1 w1 ⟨u,G',hI,hf1,g0,g1,hst1⟩
  refine tail u G' true a1 w1 (xs++uvar k++uvar pl.length) _ hI hf1 g0 g1 (fun h=>by cases h) hst1 (by simp only[List.length_append];omega) (fun h=>by cases h) ?_ (fun h=>by cases h)
  ·intro _ a2 w2 hf2 hst2
   refine kk a2 w2 hf2 (hback _ _ _ _ _ hI ?_)
   simpa [qV,List.append_assoc] using hst2
abbrev fs2:Flds:=.cons .all (.scal .i32 0) (.cons .all (.scal .i32 0) (.nil true))
theorem vU {ty:Ty} (h:ty.two=true):∃ TP TU FD,ty=.struct TP TU FD fs2:=by
 unfold Ty.two at h
 split at h
 ·simp only[Bool.and_eq_true,beq_iff_eq] at h
  obtain ⟨rfl,rfl⟩:=h
  exact ⟨_,_,_,rfl⟩
 ·cases h
theorem two_rep {d:D} {TP TU:TypeId} {FD:FuncId} (hr:(Ty.struct TP TU FD fs2).Rep w sb B cs d):∃ (m n:Int) (v:Value) (tags:List (Nat × List UInt8)),cs=[.int .i32 m,.int .i32 n,v]/\d=.obj [.int m,.int n] tags/\Scal.i32.ok m/\Scal.i32.ok n/\xx w sb B v tags:=by
 cases d with
 | obj l tags =>
  rcases l with _ | ⟨d1,_ | ⟨d2,_ | ⟨d3,l⟩⟩⟩
  ·simp only[Ty.Rep,Flds.Rep] at hr
  ·cases d1<;>simp only[Ty.Rep,Flds.Rep,false_and,and_false] at hr
  ·cases d1<;>cases d2<;>simp only[Ty.Rep,Flds.Rep,Ty.size,false_and,and_false,List.drop_drop,if_true,Ver.tagOk,and_true] at hr
   rename_i m n
   obtain ⟨⟨h1,h2⟩,⟨h3,h4⟩,v,h5,h6⟩:=hr
   refine ⟨m,n,v,tags,?_,rfl,h2,h4,h6⟩
   rcases cs with _ | ⟨a,_ | ⟨b,c⟩⟩
   ·simp at h1
   ·simp at h3
   ·simp only[List.take_succ_cons,List.take_zero,List.cons.injEq,and_true,List.drop_succ_cons,List.drop_zero] at h1 h3 h5
    subst h1;subst h3;subst h5
    rfl
  ·cases d1<;>cases d2<;>simp only[Ty.Rep,Flds.Rep,false_and,and_false] at hr
 | _=>exact absurd hr (by simp[Ty.Rep])
theorem xx.isNil {W0:World} (h:xx W0 sb B v tags):∃ q,v=.map q/\q.isNone=tags.isEmpty:=by
 rcases h.2.2 with ⟨rfl,rfl⟩ | ⟨q,_,_,rfl,_,_,_,_,_,l,_,⟨_,h⟩,_⟩
 ·exact ⟨_,rfl,rfl⟩
 ·exact ⟨_,rfl,by cases tags with | nil=>exact absurd rfl h | cons a b=>rfl⟩
theorem w_num (H:EnvW P E sb.T) {v q idx TU:Nat} {m:Int} {xs:List UInt8} (hs:WSl x L n t fx) (hn:n+1<=L) (hsz:t+5<=a.tmps.size) (hvn:v<n) (hv:a.eval (.tmp v)=.pointer (some ⟨q,0,none⟩)) (hoff:qh P TU idx=some off) (hw:E.wScal .i32≠0) (hone:qW P (E.tScal .i32)=true) (hc:w.cell? ⟨q,0+off,none⟩=some (.int .i32 m)) (hm:Scal.i32.ok m) (hst:WSt P E W0 G x ver fx a w xs) (hb:xs.length+(be 4 m).length<=big) (k:∀ a' w',Fr (KW L n t) a a'->WSt P E W0 G x ver fx a' w' (xs++be 4 m)->Q .normal a' w'):
  vc P (sq [rg [xw t TU (.tmp v) idx,kx (t+1) (E.tScal .i32) (.tmp t),qc n (.tmp (t+1)) (E.tScal .i32)],kM E (E.wScal .i32) (E.tScal .i32) n (t+2)]) Q a w:=by
 have h1:=hs.one;have h2:=hs.nL;have h3:=hs.Lt
 refine vX ?_
 refine rF (b:=q) (o:=0) zA hoff ?_
 refine rL (b:=q) (o:=0+off) zE hone hc ?_
 refine rA (dn ?_)
 generalize hA:Act.put _ (some n) _=A
 have hf:Fr (KW L n t) a A:=by
  subst hA
  exact (((Fr.refl _ a).put _ (hs.kt _ (Nat.le_refl _))).put _ (hs.kt _ zH)).put _ (by rintro ⟨_,h | h⟩<;>omega)
 have hA1:A.eval (.tmp 1)=a.eval (.tmp 1):=by subst hA;exact zE
 have hAn:A.eval (.tmp n)=.int .i32 m:=by subst hA;exact zE
 have hzA:=hf.size
 clear hA
 have hs1:WSl x L (n+1) (t+2) fx:=hs.up zH zH zH
 refine vS (w_app hs1 (v:=n) zH (by rw[hzA];omega) (hst.fr hs hf hA1) hAn (H.scal .i32 hw m _ _ hm) hb ?_)
 intro a2 w2 hf2 hst2
 exact vN (k a2 w2 (hf.trans (hf2.mono (KW.mono zH zH))) hst2)
theorem w_tagsV (H:EnvW P E sb.T) (HI:EnvI P E) {f:Nat} {v q idx TU:Nat} {tv:Value} {ob:Obj} {xs:List UInt8} (hs:WSl x L n t true) (hx:x.fl=some f) (hsz:t+10<=a.tmps.size) (hvn:v<n) (hv1:v≠1) (hv:a.eval (.tmp v)=.pointer (some ⟨q,0,none⟩)) (hoff:qh P TU idx=some off) (htl:E.tLen≠0) (hte:E.tEach≠0) (hu:E.wUvarint≠0) (hG:G q=some ob) (hc:∀ w:World,w.heap[q]? = some ob->w.cell? ⟨q,0+off,none⟩=some tv) (htr:xx W0 sb 0 tv tags) (hst:WSt P E W0 G x ver true a w xs) (hb:xs.length+(xU tags).length<=big) (k:∀ a' w',Fr (KW L n t) a a'->WSt P E W0 G x ver true a' w' (xs++xU tags)->Q .normal a' w'):
  vc P (sq [rg [qd t (.tmp f) E.tO],.cond (.tmp t) (sq [
   rg [qd (t+1) (.tmp 1) E.tB,xw (t+2) TU (.tmp v) idx,xj (some (t+3)) E.tLen #[.tmp (t+2)] #[E.tTags] E.tI,
    vy (t+4) E.tI E.tW (.tmp (t+3)),zZ (t+5) .add E.tW (.const (.int .u32 0)) (.tmp (t+4)) E.tW E.tW,
    xj (some (t+6)) E.wUvarint #[.tmp (t+1),.tmp (t+5)] #[E.tB,E.tW] E.tB,qc 1 (.tmp (t+6)) E.tB],
   rg [xw (t+7) TU (.tmp v) idx,qd (t+8) (.tmp 1) E.tB,
    xj (some (t+9)) E.tEach #[.tmp (t+7),.tmp (t+8)] #[E.tTags,E.tB] E.tB,qc 1 (.tmp (t+9)) E.tB]]) .skip]) Q a w:=by
 have h1:=hs.one;have h2:=hs.nL;have h3:=hs.Lt
 have hfl:=hst.fl f hx
 have hfn:=hs.fl f hx
 have htb:=yI tags
 simp only[xU,List.length_append] at hb
 have hlt:tags.length<4294967296:=by unfold big at hb;omega
 have hkq:∀ {a2:Act} {w2:World} {ys:List UInt8},WSt P E W0 G x ver true a2 w2 ys->w2.cell? ⟨q,0+off,none⟩=some tv/\(a2.eval (.tmp 1)).ownBlock≠some q:=by
  intro a2 w2 ys h
  obtain ⟨g1,g2⟩:=h.own.kept q ob hG
  refine ⟨hc w2 g1,fun e=>?_⟩
  rcases h.own.own.2 with ⟨h4,_⟩ | ⟨g,cap,cur,h4,_,h5,_⟩
  ·rw[h4] at e;cases e
  ·rw[h4] at e
   simp only[Value.ownBlock,Option.some.injEq] at e
   subst e
   rw[g1] at h5
   exact g2 cur (Option.some.inj h5)
 refine vX (rM (dn ?_))
 have hf0:Fr (KW L n t) a (a.put (some t) (a.eval (.tmp f))):=(Fr.refl _ a).put _ (hs.kt t (Nat.le_refl _))
 have hst0:=hst.fr hs hf0 (qj _ _ _ _ zH)
 have hv0:(a.put (some t) (a.eval (.tmp f))).eval (.tmp v)=.pointer (some ⟨q,0,none⟩):=by rw[qj _ _ _ _ zH];exact hv
 refine vS (vC (t:=true) zA ?_ (fun h=>by cases h))
 intro _
 have hz0:=hf0.size
 generalize a.put (some t) (a.eval (.tmp f))=a0 at *
 have hwr:IntKind.u32.wrap (tags.length:Int)=(tags.length:Int):=IntWalk.u32_in _ ⟨by omega,by omega⟩
 refine vX (rM ?_)
 refine rF (b:=q) (o:=0) zA hoff ?_
 refine q8 (args:=#[.pointer (some ⟨q,0+off,none⟩)]) ?_ (H.tlen htl W0 sb q (0+off) tv tags w rfl (hkq hst0).1 htr hst0.below) ?_
 ·simp only[lM]
  exact zE
 rintro r w1 ⟨rfl,hg1⟩
 refine qY (k:=.i64) (k':=.u32) (m:=(tags.length:Int)) HI.int HI.u32 zE ?_
 rw[hwr]
 refine z8 (k:=.u32) (m:=0) (n:=(tags.length:Int)) rfl zE ?_
 rw[Int.zero_add,hwr]
 refine q8 (args:=#[a0.eval (.tmp 1),.int .u32 (tags.length:Int)]) ?_ (H.uvar hu tags.length ⟨W0.heap.size,G⟩ w1 hlt _ xs (kW hst0.own hg1) (by have:=hg1.size;have:=hst.size;show W0.heap.size<=_;omega) zH) ?_
 ·simp only[lM]
  exact zE
 rintro v2 w2 ⟨hS1,hS2⟩
 refine rA (dn ?_)
 generalize hB:Act.put _ (some 1) _=Bf
 have hfB:Fr (KW L n t) a0 Bf:=by
  subst hB
  exact (((((((Fr.refl _ a0).put _ (hs.kt _ zH)).put _ (hs.kt _ zH)).put _ (hs.kt _ zH)).put _ (hs.kt _ zH)).put _ (hs.kt _ zH)).put _ (hs.kt _ zH)).put _ hs.k1
 have hB1:Bf.eval (.tmp 1)=v2:=by subst hB;exact zE
 have hzB:=hfB.size
 clear hB
 have hstB:WSt P E W0 G x ver true Bf w2 (xs++uvar tags.length):=hst0.step hs hfB hB1 ⟨hS1,(hg1.below.mono hst.size).trans hS2⟩
 have hvB:Bf.eval (.tmp v)=.pointer (some ⟨q,0,none⟩):=by rw[hfB.slot v ⟨hv1,.inl hvn⟩];exact hv0
 refine vX ?_
 refine rF (b:=q) (o:=0) zA hoff ?_
 refine rM ?_
 refine q8 (args:=#[.pointer (some ⟨q,0+off,none⟩),Bf.eval (.tmp 1)]) ?_ (H.teach hte W0 sb q (0+off) tv tags w2 rfl (hkq hstB).1 htr hstB.below G _ _ hstB.own (hkq hstB).2 (by simp only[List.length_append];omega)) ?_
 ·simp only[lM]
  exact zE
 intro v4 w4 hS4
 refine rA (dn ?_)
 generalize hD:Act.put _ (some 1) _=Df
 have hfD:Fr (KW L n t) Bf Df:=by
  subst hD
  exact ((((Fr.refl _ Bf).put _ (hs.kt _ zH)).put _ (hs.kt _ zH)).put _ (hs.kt _ zH)).put _ hs.k1
 have hD1:Df.eval (.tmp 1)=v4:=by subst hD;exact zE
 clear hD
 have hstD:=hstB.step hs hfD hD1 hS4
 refine vN (vN (k Df w4 ((hf0.trans hfB).trans hfD) ?_))
 simpa [xU,List.append_assoc] using hstD
end
end
end Go.Km
