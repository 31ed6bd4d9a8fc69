/- The texts of the functions of the spec (printed by a program from the translation). What kmsg's messages say, as data; what is written of data; how data lie in memory. No program in sight but for memory. The statements of AppendTo, one by one. More rules: append of whatever, slices laid out, struct values; guarded regions; regions that draw their order. The loop 'for i := range x' of AppendTo. What AppendTo writes: for every shape of a message. What AppendTo writes: tags, known ones too. What AppendTo writes: fields, lists, structs; every shape. What AppendTo writes: lists, structs; every shape; the whole function. -/
import Derived.Test.YtiafaedhhpjolaaGreatDoorKb00
import Derived.Deep.AppendSrc
import Derived.Great.FillDense
import Derived.OrdersHeld
import Derived.IntWalk
set_option maxHeartbeats 4000000
set_option linter.unusedSimpArgs false
set_option linter.unusedVariables false
namespace Go.Km
open Go
def c_sHas (E:Env):Code :=
 (sq [(rg [(oQ 2 (.box E.tFld (.tmp 0)) 0),
   (oQ 4 (.assign (.const (.bool false))) E.tO)]),
  (rg [(oQ 5 (.fieldAddr E.tFld (.tmp 2) 1) 0),
   (oQ 6 (.load E.tI (.tmp 5)) E.tI),
   (oQ 7 (.move (.tmp 1)) E.tI),
   (oQ 8 (.binOp .leq E.tI (.tmp 6) (.tmp 7) E.tI) E.tO),
   (oQ 9 (.move (.tmp 8)) E.tO),
   ⟨some 10,.fieldAddr E.tFld (.tmp 2) 2,0,"",#[],some (4,true)⟩,
   ⟨some 11,.load E.tI (.tmp 10),E.tI,"",#[],some (4,true)⟩,
   ⟨some 12,.binOp .lss E.tI (.tmp 11) (.const (.int .i64 0)) E.tI,E.tO,"",#[],some (4,true)⟩,
   ⟨some 13,.move (.tmp 12),E.tO,"",#[],some (4,true)⟩,
   ⟨some 14,.move (.tmp 1),E.tI,"",#[],some (8,false)⟩,
   ⟨some 15,.fieldAddr E.tFld (.tmp 2) 2,0,"",#[],some (8,false)⟩,
   ⟨some 16,.load E.tI (.tmp 15),E.tI,"",#[],some (8,false)⟩,
   ⟨some 17,.binOp .leq E.tI (.tmp 14) (.tmp 16) E.tI,E.tO,"",#[],some (8,false)⟩,
   ⟨some 18,.pick (.tmp 13) (.const (.bool true)) (.tmp 17),E.tO,"",#[],some (4,true)⟩,
   (oQ 19 (.pick (.tmp 9) (.tmp 18) (.const (.bool false))) E.tO),
   (oQ 4 (.assign (.tmp 19)) E.tO)]),
  .ret])
def c_sNull (E:Env):Code :=
 (sq [(rg [(oQ 3 (.box E.tFld (.tmp 0)) 0),
   (oQ 5 (.box E.tT (.tmp 2)) 0),
   (oQ 6 (.assign (.const (.bool false))) E.tO)]),
  (rg [(oQ 7 (.fieldAddr E.tT (.tmp 5) 2) 0),
   (oQ 8 (.load E.tO (.tmp 7)) E.tO),
   (oQ 9 (.move (.tmp 8)) E.tO),
   ⟨some 10,.fieldAddr E.tFld (.tmp 3) 3,0,"",#[],some (2,true)⟩,
   ⟨some 11,.load E.tI (.tmp 10),E.tI,"",#[],some (2,true)⟩,
   ⟨some 12,.binOp .geq E.tI (.tmp 11) (.const (.int .i64 0)) E.tI,E.tO,"",#[],some (2,true)⟩,
   (oQ 13 (.pick (.tmp 9) (.tmp 12) (.const (.bool false))) E.tO),
   (oQ 14 (.move (.tmp 13)) E.tO),
   ⟨some 15,.move (.tmp 1),E.tI,"",#[],some (7,true)⟩,
   ⟨some 16,.fieldAddr E.tFld (.tmp 3) 3,0,"",#[],some (7,true)⟩,
   ⟨some 17,.load E.tI (.tmp 16),E.tI,"",#[],some (7,true)⟩,
   ⟨some 18,.binOp .geq E.tI (.tmp 15) (.tmp 17) E.tI,E.tO,"",#[],some (7,true)⟩,
   (oQ 19 (.pick (.tmp 14) (.tmp 18) (.const (.bool false))) E.tO),
   (oQ 6 (.assign (.tmp 19)) E.tO)]),
  .ret])
def c_sWhole (E:Env):Code :=
 (sq [(rg [(oQ 2 (.assign (.const (.slice none 0 0))) E.tB)]),
  (rg [(oQ 3 (.move (.tmp 0)) E.tB),
   (oQ 4 (.move (.tmp 0)) E.tB),
   (oQ 5 (.call { callee:=.builtin .len,args:=#[(.tmp 4)],argTypes:=#[E.tB] }) E.tI),
   (oQ 6 (.call { callee:=.builtin .min,args:=#[(.tmp 5),(.const (.int .i64 32767))],argTypes:=#[E.tI,E.tI] }) E.tI),
   (oQ 7 (.slice E.tB (.tmp 3) none (some (.tmp 6)) none) E.tB),
   (oQ 2 (.assign (.tmp 7)) E.tB)]),
  .ret])
def c_sThings (E:Env):Code :=
 (sq [(rg [(oQ 2 (.assign (.const (.slice none 0 0))) E.tS)]),
  (rg [(oQ 3 (.move (.tmp 0)) E.tS),
   (oQ 4 (.move (.tmp 0)) E.tS),
   (oQ 5 (.call { callee:=.builtin .len,args:=#[(.tmp 4)],argTypes:=#[E.tS] }) E.tI),
   (oQ 6 (.call { callee:=.builtin .min,args:=#[(.tmp 5),(.const (.int .i64 32767))],argTypes:=#[E.tI,E.tI] }) E.tI),
   (oQ 7 (.slice E.tS (.tmp 3) none (some (.tmp 6)) none) E.tS),
   (oQ 2 (.assign (.tmp 7)) E.tS)]),
  .ret])
def c_sAt (E:Env):Code :=
 (sq [(rg [(oQ 2 (.box E.tT (.tmp 0)) 0),
   (oQ 4 (.alloc E.tT) 0)]),
  (sq [(rg [(oQ 5 (.move (.tmp 1)) E.tI),
    (oQ 6 (.fieldAddr E.tT (.tmp 2) 3) 0),
    (oQ 7 (.load E.tS (.tmp 6)) E.tS),
    (oQ 8 (.call { callee:=.builtin .len,args:=#[(.tmp 7)],argTypes:=#[E.tS] }) E.tI),
    (oQ 9 (.binOp .lss E.tI (.tmp 5) (.tmp 8) E.tI) E.tO)]),
   (.cond (.tmp 9)
    (sq [(rg [(oQ 10 (.fieldAddr E.tT (.tmp 2) 3) 0),
      (oQ 11 (.load E.tS (.tmp 10)) E.tS),
      (oQ 12 (.move (.tmp 1)) E.tI),
      (oQ 13 (.indexAddr E.tS (.tmp 11) (.tmp 12)) 0),
      (oQ 14 (.load E.tT (.tmp 13)) E.tT),
      ⟨none,.store E.tT (.tmp 4) (.tmp 14),0,"",#[],none⟩]),
     .ret])
    .skip)]),
  (rg [(oQ 15 (.build E.tT #[]) E.tT),
   ⟨none,.store E.tT (.tmp 4) (.tmp 15),0,"",#[],none⟩]),
  .ret])
def c_sUvar (E:Env):Code :=
 (sq [(rg [(oQ 2 (.assign (.const (.slice none 0 0))) E.tB)]),
  (rg [(oQ 3 (.assign (.const (.slice none 0 0))) E.tB)]),
  (.block 0 (.loop (sq [(sq [(rg [(oQ 4 (.move (.tmp 0)) E.tU64),
       (oQ 5 (.binOp .gtr E.tU64 (.tmp 4) (.const (.int .u64 127)) E.tU64) E.tO)]),
      (.cond (.tmp 5)
       .skip
       (.exit 0))]),
     (.block 1 (sq [(rg [(oQ 6 (.move (.tmp 3)) E.tB),
        (oQ 7 (.move (.tmp 0)) E.tU64),
        (oQ 8 (.binOp .and E.tU64 (.tmp 7) (.const (.int .u64 127)) E.tU64) E.tU64),
        (oQ 9 (.convert E.tU64 E.tU8 (.tmp 8)) E.tU8),
        (oQ 10 (.binOp .or E.tU8 (.tmp 9) (.const (.int .u8 128)) E.tU8) E.tU8),
        (oQ 11 (.buildSlice E.tB 1 #[(0,(.tmp 10))]) E.tB),
        (oQ 12 (.call { callee:=.builtin .append,args:=#[(.tmp 6),(.tmp 11)],argTypes:=#[E.tB,E.tB] }) E.tB),
        (oQ 3 (.assign (.tmp 12)) E.tB)]),
       (rg [(oQ 13 (.move (.tmp 0)) E.tU64),
        (oQ 14 (.binOp .shr E.tU64 (.tmp 13) (.const (.int .u64 7)) E.tUint) E.tU64),
        (oQ 0 (.assign (.tmp 14)) E.tU64)])]))]))),
  (rg [(oQ 15 (.move (.tmp 3)) E.tB),
   (oQ 16 (.move (.tmp 0)) E.tU64),
   (oQ 17 (.convert E.tU64 E.tU8 (.tmp 16)) E.tU8),
   (oQ 18 (.buildSlice E.tB 1 #[(0,(.tmp 17))]) E.tB),
   (oQ 19 (.call { callee:=.builtin .append,args:=#[(.tmp 15),(.tmp 18)],argTypes:=#[E.tB,E.tB] }) E.tB),
   (oQ 2 (.assign (.tmp 19)) E.tB)]),
  .ret])
def yU (E:Env):Code :=
 (sq [(rg [(oQ 4 (.assign (.const (.slice none 0 0))) E.tB)]),
  (rg [(oQ 5 (.assign (.const (.slice none 0 0))) E.tB)]),
  (sq [(rg [(oQ 7 (.move (.tmp 1)) E.tI),
    (oQ 8 (.binOp .sub E.tI (.tmp 7) (.const (.int .i64 1)) E.tI) E.tI),
    (oQ 6 (.assign (.tmp 8)) E.tI)]),
   (.block 0 (.loop (sq [(sq [(rg [(oQ 9 (.move (.tmp 6)) E.tI),
        (oQ 10 (.binOp .geq E.tI (.tmp 9) (.const (.int .i64 0)) E.tI) E.tO)]),
       (.cond (.tmp 10)
        .skip
        (.exit 0))]),
      (.block 1 (rg [(oQ 13 (.move (.tmp 5)) E.tB),
        (oQ 14 (.move (.tmp 0)) E.tI64),
        (oQ 15 (.move (.tmp 6)) E.tI),
        (oQ 16 (.binOp .mul E.tI (.const (.int .i64 8)) (.tmp 15) E.tI) E.tI),
        (oQ 17 (.binOp .shr E.tI64 (.tmp 14) (.tmp 16) E.tI) E.tI64),
        (oQ 18 (.convert E.tI64 E.tU8 (.tmp 17)) E.tU8),
        (oQ 19 (.buildSlice E.tB 1 #[(0,(.tmp 18))]) E.tB),
        (oQ 20 (.call { callee:=.builtin .append,args:=#[(.tmp 13),(.tmp 19)],argTypes:=#[E.tB,E.tB] }) E.tB),
        (oQ 5 (.assign (.tmp 20)) E.tB)])),
      (rg [(oQ 11 (.move (.tmp 6)) E.tI),
       (oQ 12 (.binOp .sub E.tI (.tmp 11) (.const (.int .i64 1)) E.tI) E.tI),
       (oQ 6 (.assign (.tmp 12)) E.tI)])])))]),
  (rg [(oQ 21 (.move (.tmp 5)) E.tB),
   (oQ 4 (.assign (.tmp 21)) E.tB)]),
  .ret])
def c_sWidth (E:Env):Code :=
 (sq [(rg [(oQ 2 (.assign (.const (.int .i64 0))) E.tI)]),
  (sq [(rg [(oQ 3 (.move (.tmp 0)) E.tI)]),
   (.block 0 (sq [(rg [(oQ 5 (.binOp .eql E.tI (.tmp 3) (.const (.int .i64 1)) E.tI) E.tO),
      (oQ 4 (.assign (.tmp 5)) E.tO)]),
     (.cond (.tmp 4)
      (sq [(rg [(oQ 2 (.assign (.const (.int .i64 1))) E.tI)]),
       .ret])
      (sq [(sq [(rg [(oQ 7 (.binOp .eql E.tI (.tmp 3) (.const (.int .i64 2)) E.tI) E.tO),
         (oQ 6 (.assign (.tmp 7)) E.tO)]),
        (.cond (.tmp 6)
         .skip
         (rg [(oQ 8 (.binOp .eql E.tI (.tmp 3) (.const (.int .i64 5)) E.tI) E.tO),
          (oQ 6 (.assign (.tmp 8)) E.tO)]))]),
       (.cond (.tmp 6)
        (sq [(rg [(oQ 2 (.assign (.const (.int .i64 2))) E.tI)]),
         .ret])
        (sq [(rg [(oQ 10 (.binOp .eql E.tI (.tmp 3) (.const (.int .i64 3)) E.tI) E.tO),
          (oQ 9 (.assign (.tmp 10)) E.tO)]),
         (.cond (.tmp 9)
          (sq [(rg [(oQ 2 (.assign (.const (.int .i64 4))) E.tI)]),
           .ret])
          .skip)]))]))]))]),
  (rg [(oQ 2 (.assign (.const (.int .i64 8))) E.tI)]),
  .ret])
def wk (E:Env):Code :=
 (sq [(rg [(oQ 8 (.assign (.const (.slice none 0 0))) E.tB)]),
  (.block 0 (sq [(rg [(oQ 10 (.move (.tmp 0)) E.tO),
     (oQ 11 (.move (.tmp 10)) E.tO),
     ⟨some 12,.move (.tmp 1),E.tO,"",#[],some (1,true)⟩,
     (oQ 13 (.pick (.tmp 11) (.tmp 12) (.const (.bool false))) E.tO),
     (oQ 9 (.assign (.tmp 13)) E.tO)]),
    (.cond (.tmp 9)
     (sq [(rg [(oQ 14 (.buildSlice E.tB 1 #[(0,(.const (.int .u8 0)))]) E.tB),
       (oQ 8 (.assign (.tmp 14)) E.tB)]),
      .ret])
     (sq [(rg [(oQ 16 (.move (.tmp 0)) E.tO),
       (oQ 15 (.assign (.tmp 16)) E.tO)]),
      (.cond (.tmp 15)
       (sq [(rg [(oQ 17 (.move (.tmp 2)) E.tI),
         (oQ 18 (.convert E.tI E.tU64 (.tmp 17)) E.tU64),
         (oQ 19 (.binOp .add E.tU64 (.tmp 18) (.const (.int .u64 1)) E.tU64) E.tU64),
         (oQ 20 (.call { callee:=.value (.func E.sUvar),args:=#[(.tmp 19)],argTypes:=#[E.tU64] }) E.tB),
         (oQ 8 (.assign (.tmp 20)) E.tB)]),
        .ret])
       (sq [(rg [(oQ 22 (.move (.tmp 1)) E.tO),
         (oQ 21 (.assign (.tmp 22)) E.tO)]),
        (.cond (.tmp 21)
         (sq [(rg [(oQ 23 (.move (.tmp 3)) E.tI),
           (oQ 24 (.call { callee:=.value (.func E.sFixed),args:=#[(.const (.int .i64 (-1))),(.tmp 23)],argTypes:=#[E.tI64,E.tI] }) E.tB),
           (oQ 8 (.assign (.tmp 24)) E.tB)]),
          .ret])
         .skip)]))]))])),
  (rg [(oQ 25 (.move (.tmp 2)) E.tI),
   (oQ 26 (.move (.tmp 3)) E.tI),
   (oQ 27 (.call { callee:=.value (.func E.sFixed),args:=#[(.tmp 25),(.tmp 26)],argTypes:=#[E.tI64,E.tI] }) E.tB),
   (oQ 8 (.assign (.tmp 27)) E.tB)]),
  .ret])
def c_sValue (E:Env):Code :=
 (sq [(rg [(oQ 11 (.box E.tT (.tmp 5)) 0),
   (oQ 12 (.assign (.const (.slice none 0 0))) E.tB)]),
  (sq [(rg [(oQ 16 (.move (.tmp 0)) E.tI)]),
   (.block 0 (sq [(rg [(oQ 18 (.binOp .eql E.tI (.tmp 16) (.const (.int .i64 0)) E.tI) E.tO),
      (oQ 17 (.assign (.tmp 18)) E.tO)]),
     (.cond (.tmp 17)
      (sq [(rg [(oQ 19 (.fieldAddr E.tT (.tmp 11) 0) 0),
        (oQ 20 (.load E.tI64 (.tmp 19)) E.tI64),
        (oQ 21 (.binOp .and E.tI64 (.tmp 20) (.const (.int .i64 1)) E.tI64) E.tI64),
        (oQ 22 (.convert E.tI64 E.tU8 (.tmp 21)) E.tU8),
        (oQ 23 (.buildSlice E.tB 1 #[(0,(.tmp 22))]) E.tB),
        (oQ 12 (.assign (.tmp 23)) E.tB)]),
       .ret])
      (sq [(rg [(oQ 25 (.binOp .eql E.tI (.tmp 16) (.const (.int .i64 7)) E.tI) E.tO),
        (oQ 24 (.assign (.tmp 25)) E.tO)]),
       (.cond (.tmp 24)
        (sq [(rg [(oQ 26 (.makeSlice E.tB (.const (.int .i64 16)) (.const (.int .i64 16))) E.tB),
          (oQ 13 (.assign (.tmp 26)) E.tB)]),
         (rg [(oQ 27 (.move (.tmp 13)) E.tB),
          (oQ 28 (.fieldAddr E.tT (.tmp 11) 1) 0),
          (oQ 29 (.load E.tB (.tmp 28)) E.tB),
          (oQ 30 (.call { callee:=.builtin .copy,args:=#[(.tmp 27),(.tmp 29)],argTypes:=#[E.tB,E.tB] }) E.tI)]),
         (rg [(oQ 31 (.move (.tmp 13)) E.tB),
          (oQ 12 (.assign (.tmp 31)) E.tB)]),
         .ret])
        (sq [(rg [(oQ 33 (.binOp .eql E.tI (.tmp 16) (.const (.int .i64 8)) E.tI) E.tO),
          (oQ 32 (.assign (.tmp 33)) E.tO)]),
         (.cond (.tmp 32)
          (sq [(rg [(oQ 34 (.fieldAddr E.tT (.tmp 11) 1) 0),
            (oQ 35 (.load E.tB (.tmp 34)) E.tB),
            (oQ 36 (.call { callee:=.value (.func E.sWhole),args:=#[(.tmp 35)],argTypes:=#[E.tB] }) E.tB),
            (oQ 14 (.assign (.tmp 36)) E.tB)]),
           (sq [(rg [(oQ 37 (.move (.tmp 2)) E.tO)]),
            (.cond (.tmp 37)
             (rg [(oQ 14 (.assign (.const (.slice none 0 0))) E.tB)])
             .skip)]),
           (rg [(oQ 38 (.move (.tmp 4)) E.tO),
            (oQ 39 (.move (.tmp 2)) E.tO),
            (oQ 40 (.move (.tmp 14)) E.tB),
            (oQ 41 (.call { callee:=.builtin .len,args:=#[(.tmp 40)],argTypes:=#[E.tB] }) E.tI),
            (oQ 42 (.call { callee:=.value (.func E.sCounted),args:=#[(.tmp 38),(.tmp 39),(.tmp 41),(.const (.int .i64 2))],argTypes:=#[E.tO,E.tO,E.tI,E.tI] }) E.tB),
            (oQ 43 (.move (.tmp 14)) E.tB),
            (oQ 44 (.call { callee:=.builtin .append,args:=#[(.tmp 42),(.tmp 43)],argTypes:=#[E.tB,E.tB] }) E.tB),
            (oQ 12 (.assign (.tmp 44)) E.tB)]),
           .ret])
          (sq [(rg [(oQ 46 (.binOp .eql E.tI (.tmp 16) (.const (.int .i64 9)) E.tI) E.tO),
            (oQ 45 (.assign (.tmp 46)) E.tO)]),
           (.cond (.tmp 45)
            (sq [(rg [(oQ 47 (.fieldAddr E.tT (.tmp 11) 1) 0),
              (oQ 48 (.load E.tB (.tmp 47)) E.tB),
              (oQ 49 (.call { callee:=.value (.func E.sWhole),args:=#[(.tmp 48)],argTypes:=#[E.tB] }) E.tB),
              (oQ 15 (.assign (.tmp 49)) E.tB)]),
             (sq [(rg [(oQ 50 (.move (.tmp 2)) E.tO)]),
              (.cond (.tmp 50)
               (rg [(oQ 15 (.assign (.const (.slice none 0 0))) E.tB)])
               .skip)]),
             (rg [(oQ 51 (.move (.tmp 4)) E.tO),
              (oQ 52 (.move (.tmp 2)) E.tO),
              (oQ 53 (.move (.tmp 15)) E.tB),
              (oQ 54 (.call { callee:=.builtin .len,args:=#[(.tmp 53)],argTypes:=#[E.tB] }) E.tI),
              (oQ 55 (.call { callee:=.value (.func E.sCounted),args:=#[(.tmp 51),(.tmp 52),(.tmp 54),(.const (.int .i64 4))],argTypes:=#[E.tO,E.tO,E.tI,E.tI] }) E.tB),
              (oQ 56 (.move (.tmp 15)) E.tB),
              (oQ 57 (.call { callee:=.builtin .append,args:=#[(.tmp 55),(.tmp 56)],argTypes:=#[E.tB,E.tB] }) E.tB),
              (oQ 12 (.assign (.tmp 57)) E.tB)]),
             .ret])
            (sq [(rg [(oQ 59 (.binOp .eql E.tI (.tmp 16) (.const (.int .i64 10)) E.tI) E.tO),
              (oQ 58 (.assign (.tmp 59)) E.tO)]),
             (.cond (.tmp 58)
              (sq [(rg [(oQ 60 (.move (.tmp 1)) E.tFlds),
                (oQ 61 (.move (.tmp 3)) E.tI),
                (oQ 62 (.move (.tmp 4)) E.tO),
                (oQ 63 (.load E.tT (.tmp 11)) E.tT),
                (oQ 64 (.call { callee:=.value (.func E.sPart),args:=#[(.tmp 60),(.tmp 61),(.tmp 62),(.tmp 63)],argTypes:=#[E.tFlds,E.tI,E.tO,E.tT] }) E.tB),
                (oQ 12 (.assign (.tmp 64)) E.tB)]),
               .ret])
              .skip)]))]))]))]))]))]),
  (rgd [(oQ 65 (.fieldAddr E.tT (.tmp 11) 0) 0),
   ⟨some 66,.load E.tI64 (.tmp 65),E.tI64,"",#[⟨0,.data⟩],none⟩,
   (oQ 67 (.move (.tmp 0)) E.tI),
   ⟨some 68,.call { callee:=.value (.func E.sWidth),args:=#[(.tmp 67)],argTypes:=#[E.tI] },E.tI,"",#[⟨2,.data⟩],none⟩,
   ⟨some 69,.call { callee:=.value (.func E.sFixed),args:=#[(.tmp 66),(.tmp 68)],argTypes:=#[E.tI64,E.tI] },E.tB,"",#[⟨1,.data⟩,⟨3,.data⟩,⟨3,.chain⟩],none⟩,
   ⟨some 12,.assign (.tmp 69),E.tB,"",#[⟨4,.data⟩,⟨4,.chain⟩,⟨0,.phase⟩,⟨1,.phase⟩,⟨2,.phase⟩,⟨3,.phase⟩,⟨4,.phase⟩],none⟩]),
  .ret])
def c_sField (E:Env):Code :=
 (sq [(rg [(oQ 4 (.box E.tFld (.tmp 0)) 0),
   (oQ 7 (.box E.tT (.tmp 3)) 0),
   (oQ 8 (.assign (.const (.slice none 0 0))) E.tB)]),
  (rg [(oQ 13 (.load E.tFld (.tmp 4)) E.tFld),
   (oQ 14 (.move (.tmp 1)) E.tI),
   (oQ 15 (.load E.tT (.tmp 7)) E.tT),
   (oQ 16 (.call { callee:=.value (.func E.sNull),args:=#[(.tmp 13),(.tmp 14),(.tmp 15)],argTypes:=#[E.tFld,E.tI,E.tT] }) E.tO),
   (oQ 9 (.assign (.tmp 16)) E.tO)]),
  (sq [(rg [(oQ 17 (.fieldAddr E.tFld (.tmp 4) 0) 0),
    (oQ 18 (.load E.tI (.tmp 17)) E.tI),
    (oQ 19 (.binOp .eql E.tI (.tmp 18) (.const (.int .i64 11)) E.tI) E.tO)]),
   (.cond (.tmp 19)
    (sq [(rg [(oQ 20 (.fieldAddr E.tT (.tmp 7) 3) 0),
      (oQ 21 (.load E.tS (.tmp 20)) E.tS),
      (oQ 22 (.call { callee:=.value (.func E.sThings),args:=#[(.tmp 21)],argTypes:=#[E.tS] }) E.tS),
      (oQ 10 (.assign (.tmp 22)) E.tS)]),
     (sq [(rg [(oQ 23 (.move (.tmp 9)) E.tO)]),
      (.cond (.tmp 23)
       (rg [(oQ 10 (.assign (.const (.slice none 0 0))) E.tS)])
       .skip)]),
     (rg [(oQ 24 (.move (.tmp 2)) E.tO),
      (oQ 25 (.move (.tmp 9)) E.tO),
      (oQ 26 (.move (.tmp 10)) E.tS),
      (oQ 27 (.call { callee:=.builtin .len,args:=#[(.tmp 26)],argTypes:=#[E.tS] }) E.tI),
      (oQ 28 (.call { callee:=.value (.func E.sCounted),args:=#[(.tmp 24),(.tmp 25),(.tmp 27),(.const (.int .i64 4))],argTypes:=#[E.tO,E.tO,E.tI,E.tI] }) E.tB),
      (oQ 11 (.assign (.tmp 28)) E.tB)]),
     (sq [(rg [(oQ 29 (.move (.tmp 10)) E.tS),
       (oQ 30 (.call { callee:=.builtin .len,args:=#[(.tmp 29)],argTypes:=#[E.tS] }) E.tI),
       (oQ 31 (.move (.const (.int .i64 0))) E.tI)]),
      (.block 0 (.loop (sq [(rg [(oQ 32 (.binOp .lss E.tI (.tmp 31) (.tmp 30) E.tI) 0)]),
         (.cond (.tmp 32)
          .skip
          (.exit 0)),
         (.block 1 (sq [(rg [(oQ 33 (.move (.tmp 31)) E.tI),
            (oQ 12 (.assign (.tmp 33)) E.tI)]),
           (rgd [(oQ 34 (.move (.tmp 11)) E.tB),
            (oQ 35 (.fieldAddr E.tFld (.tmp 4) 6) 0),
            ⟨some 36,.load E.tI (.tmp 35),E.tI,"",#[⟨1,.data⟩],none⟩,
            (oQ 37 (.fieldAddr E.tFld (.tmp 4) 7) 0),
            ⟨some 38,.load E.tFlds (.tmp 37),E.tFlds,"",#[⟨3,.data⟩],none⟩,
            (oQ 39 (.move (.tmp 1)) E.tI),
            (oQ 40 (.move (.tmp 2)) E.tO),
            (oQ 41 (.move (.tmp 10)) E.tS),
            (oQ 42 (.move (.tmp 12)) E.tI),
            ⟨some 43,.indexAddr E.tS (.tmp 41) (.tmp 42),0,"",#[⟨7,.data⟩,⟨8,.data⟩],none⟩,
            ⟨some 44,.load E.tT (.tmp 43),E.tT,"",#[⟨9,.data⟩],none⟩,
            ⟨some 45,.call { callee:=.value (.func E.sValue),args:=#[(.tmp 36),(.tmp 38),(.const (.bool false)),(.tmp 39),(.tmp 40),(.tmp 44)],argTypes:=#[E.tI,E.tFlds,E.tO,E.tI,E.tO,E.tT] },E.tB,"",#[⟨2,.data⟩,⟨4,.data⟩,⟨5,.data⟩,⟨6,.data⟩,⟨10,.data⟩],none⟩,
            ⟨some 46,.call { callee:=.builtin .append,args:=#[(.tmp 34),(.tmp 45)],argTypes:=#[E.tB,E.tB] },E.tB,"",#[⟨0,.data⟩,⟨11,.data⟩,⟨11,.chain⟩],none⟩,
            ⟨some 11,.assign (.tmp 46),E.tB,"",#[⟨12,.data⟩,⟨12,.chain⟩,⟨0,.phase⟩,⟨1,.phase⟩,⟨2,.phase⟩,⟨3,.phase⟩,⟨4,.phase⟩,⟨5,.phase⟩,⟨6,.phase⟩,⟨7,.phase⟩,⟨8,.phase⟩,⟨9,.phase⟩,⟨10,.phase⟩,⟨11,.phase⟩,⟨12,.phase⟩],none⟩])])),
         (rg [(oQ 47 (.binOp .add E.tI (.tmp 31) (.const (.int .i64 1)) E.tI) E.tI),
          (oQ 31 (.move (.tmp 47)) E.tI)])])))]),
     (rg [(oQ 48 (.move (.tmp 11)) E.tB),
      (oQ 8 (.assign (.tmp 48)) E.tB)]),
     .ret])
    .skip)]),
  (sq [(rg [(oQ 49 (.fieldAddr E.tFld (.tmp 4) 0) 0),
    (oQ 50 (.load E.tI (.tmp 49)) E.tI),
    (oQ 51 (.binOp .eql E.tI (.tmp 50) (.const (.int .i64 10)) E.tI) E.tO),
    (oQ 52 (.move (.tmp 51)) E.tO),
    ⟨some 53,.fieldAddr E.tFld (.tmp 4) 3,0,"",#[],some (3,true)⟩,
    ⟨some 54,.load E.tI (.tmp 53),E.tI,"",#[],some (3,true)⟩,
    ⟨some 55,.binOp .geq E.tI (.tmp 54) (.const (.int .i64 0)) E.tI,E.tO,"",#[],some (3,true)⟩,
    (oQ 56 (.pick (.tmp 52) (.tmp 55) (.const (.bool false))) E.tO)]),
   (.cond (.tmp 56)
    (sq [(sq [(rg [(oQ 57 (.move (.tmp 9)) E.tO)]),
      (.cond (.tmp 57)
       (sq [(rg [(oQ 58 (.call { callee:=.value (.func E.sFixed),args:=#[(.const (.int .i64 (-1))),(.const (.int .i64 1))],argTypes:=#[E.tI64,E.tI] }) E.tB),
         (oQ 8 (.assign (.tmp 58)) E.tB)]),
        .ret])
       .skip)]),
     (rgd [(oQ 59 (.call { callee:=.value (.func E.sFixed),args:=#[(.const (.int .i64 1)),(.const (.int .i64 1))],argTypes:=#[E.tI64,E.tI] }) E.tB),
      (oQ 60 (.fieldAddr E.tFld (.tmp 4) 7) 0),
      ⟨some 61,.load E.tFlds (.tmp 60),E.tFlds,"",#[⟨1,.data⟩],none⟩,
      (oQ 62 (.move (.tmp 1)) E.tI),
      (oQ 63 (.move (.tmp 2)) E.tO),
      (oQ 64 (.load E.tT (.tmp 7)) E.tT),
      ⟨some 65,.call { callee:=.value (.func E.sPart),args:=#[(.tmp 61),(.tmp 62),(.tmp 63),(.tmp 64)],argTypes:=#[E.tFlds,E.tI,E.tO,E.tT] },E.tB,"",#[⟨2,.data⟩,⟨3,.data⟩,⟨4,.data⟩,⟨5,.data⟩,⟨0,.chain⟩],none⟩,
      ⟨some 66,.call { callee:=.builtin .append,args:=#[(.tmp 59),(.tmp 65)],argTypes:=#[E.tB,E.tB] },E.tB,"",#[⟨0,.data⟩,⟨6,.data⟩,⟨6,.chain⟩],none⟩,
      ⟨some 8,.assign (.tmp 66),E.tB,"",#[⟨7,.data⟩,⟨7,.chain⟩,⟨0,.phase⟩,⟨1,.phase⟩,⟨2,.phase⟩,⟨3,.phase⟩,⟨4,.phase⟩,⟨5,.phase⟩,⟨6,.phase⟩,⟨7,.phase⟩],none⟩]),
     .ret])
    .skip)]),
  (rg [(oQ 67 (.fieldAddr E.tFld (.tmp 4) 0) 0),
   (oQ 68 (.load E.tI (.tmp 67)) E.tI),
   (oQ 69 (.fieldAddr E.tFld (.tmp 4) 7) 0),
   (oQ 70 (.load E.tFlds (.tmp 69)) E.tFlds),
   (oQ 71 (.move (.tmp 9)) E.tO),
   (oQ 72 (.move (.tmp 1)) E.tI),
   (oQ 73 (.move (.tmp 2)) E.tO),
   (oQ 74 (.load E.tT (.tmp 7)) E.tT),
   (oQ 75 (.call { callee:=.value (.func E.sValue),args:=#[(.tmp 68),(.tmp 70),(.tmp 71),(.tmp 72),(.tmp 73),(.tmp 74)],argTypes:=#[E.tI,E.tFlds,E.tO,E.tI,E.tO,E.tT] }) E.tB),
   (oQ 8 (.assign (.tmp 75)) E.tB)]),
  .ret])
def c_sUsual (E:Env):Code :=
 (sq [(rg [(oQ 2 (.box E.tFld (.tmp 0)) 0),
   (oQ 3 (.box E.tT (.tmp 1)) 0),
   (oQ 4 (.assign (.const (.bool false))) E.tO)]),
  (sq [(rg [(oQ 9 (.fieldAddr E.tFld (.tmp 2) 0) 0),
    (oQ 10 (.load E.tI (.tmp 9)) E.tI)]),
   (.block 0 (sq [(rg [(oQ 12 (.binOp .eql E.tI (.tmp 10) (.const (.int .i64 0)) E.tI) E.tO),
      (oQ 11 (.assign (.tmp 12)) E.tO)]),
     (.cond (.tmp 11)
      (sq [(rg [(oQ 13 (.fieldAddr E.tT (.tmp 3) 0) 0),
        (oQ 14 (.load E.tI64 (.tmp 13)) E.tI64),
        (oQ 15 (.binOp .and E.tI64 (.tmp 14) (.const (.int .i64 1)) E.tI64) E.tI64),
        (oQ 16 (.fieldAddr E.tFld (.tmp 2) 5) 0),
        (oQ 17 (.load E.tI64 (.tmp 16)) E.tI64),
        (oQ 18 (.binOp .eql E.tI64 (.tmp 15) (.tmp 17) E.tI64) E.tO),
        (oQ 4 (.assign (.tmp 18)) E.tO)]),
       .ret])
      (sq [(rg [(oQ 20 (.binOp .eql E.tI (.tmp 10) (.const (.int .i64 7)) E.tI) E.tO),
        (oQ 19 (.assign (.tmp 20)) E.tO)]),
       (.cond (.tmp 19)
        (sq [(sq [(rg [(oQ 21 (.fieldAddr E.tT (.tmp 3) 1) 0),
           (oQ 22 (.load E.tB (.tmp 21)) E.tB),
           (oQ 23 (.call { callee:=.builtin .len,args:=#[(.tmp 22)],argTypes:=#[E.tB] }) E.tI),
           (oQ 24 (.move (.const (.int .i64 0))) E.tI)]),
          (.block 1 (.loop (sq [(rg [(oQ 25 (.binOp .lss E.tI (.tmp 24) (.tmp 23) E.tI) 0)]),
             (.cond (.tmp 25)
              .skip
              (.exit 1)),
             (.block 2 (sq [(rg [(oQ 26 (.move (.tmp 24)) E.tI),
                (oQ 27 (.indexAddr E.tB (.tmp 22) (.tmp 24)) 0),
                (oQ 28 (.load E.tU8 (.tmp 27)) E.tU8),
                (oQ 5 (.assign (.tmp 26)) E.tI),
                (oQ 6 (.assign (.tmp 28)) E.tU8)]),
               (rg [(oQ 29 (.move (.tmp 5)) E.tI),
                (oQ 30 (.binOp .lss E.tI (.tmp 29) (.const (.int .i64 16)) E.tI) E.tO),
                (oQ 31 (.move (.tmp 30)) E.tO),
                ⟨some 32,.move (.tmp 6),E.tU8,"",#[],some (2,true)⟩,
                ⟨some 33,.binOp .neq E.tU8 (.tmp 32) (.const (.int .u8 0)) E.tU8,E.tO,"",#[],some (2,true)⟩,
                (oQ 34 (.pick (.tmp 31) (.tmp 33) (.const (.bool false))) E.tO)]),
               (.cond (.tmp 34)
                (sq [(rg [(oQ 4 (.assign (.const (.bool false))) E.tO)]),
                 .ret])
                .skip)])),
             (rg [(oQ 35 (.binOp .add E.tI (.tmp 24) (.const (.int .i64 1)) E.tI) E.tI),
              (oQ 24 (.move (.tmp 35)) E.tI)])])))]),
         (rg [(oQ 4 (.assign (.const (.bool true))) E.tO)]),
         .ret])
        (sq [(sq [(rg [(oQ 37 (.binOp .eql E.tI (.tmp 10) (.const (.int .i64 8)) E.tI) E.tO),
           (oQ 36 (.assign (.tmp 37)) E.tO)]),
          (.cond (.tmp 36)
           .skip
           (rg [(oQ 38 (.binOp .eql E.tI (.tmp 10) (.const (.int .i64 9)) E.tI) E.tO),
            (oQ 36 (.assign (.tmp 38)) E.tO)]))]),
         (.cond (.tmp 36)
          (sq [(sq [(rg [(oQ 39 (.fieldAddr E.tFld (.tmp 2) 3) 0),
             (oQ 40 (.load E.tI (.tmp 39)) E.tI),
             (oQ 41 (.binOp .geq E.tI (.tmp 40) (.const (.int .i64 0)) E.tI) E.tO)]),
            (.cond (.tmp 41)
             (sq [(rg [(oQ 42 (.fieldAddr E.tT (.tmp 3) 2) 0),
               (oQ 43 (.load E.tO (.tmp 42)) E.tO),
               (oQ 4 (.assign (.tmp 43)) E.tO)]),
              .ret])
             .skip)]),
           (rg [(oQ 44 (.fieldAddr E.tT (.tmp 3) 1) 0),
            (oQ 45 (.load E.tB (.tmp 44)) E.tB),
            (oQ 46 (.call { callee:=.builtin .len,args:=#[(.tmp 45)],argTypes:=#[E.tB] }) E.tI),
            (oQ 47 (.binOp .eql E.tI (.tmp 46) (.const (.int .i64 0)) E.tI) E.tO),
            (oQ 4 (.assign (.tmp 47)) E.tO)]),
           .ret])
          (sq [(rg [(oQ 49 (.binOp .eql E.tI (.tmp 10) (.const (.int .i64 11)) E.tI) E.tO),
            (oQ 48 (.assign (.tmp 49)) E.tO)]),
           (.cond (.tmp 48)
            (sq [(rg [(oQ 50 (.fieldAddr E.tT (.tmp 3) 3) 0),
              (oQ 51 (.load E.tS (.tmp 50)) E.tS),
              (oQ 52 (.call { callee:=.builtin .len,args:=#[(.tmp 51)],argTypes:=#[E.tS] }) E.tI),
              (oQ 53 (.binOp .eql E.tI (.tmp 52) (.const (.int .i64 0)) E.tI) E.tO),
              (oQ 4 (.assign (.tmp 53)) E.tO)]),
             .ret])
            (sq [(rg [(oQ 55 (.binOp .eql E.tI (.tmp 10) (.const (.int .i64 10)) E.tI) E.tO),
              (oQ 54 (.assign (.tmp 55)) E.tO)]),
             (.cond (.tmp 54)
              (sq [(sq [(rg [(oQ 56 (.fieldAddr E.tFld (.tmp 2) 7) 0),
                 (oQ 57 (.load E.tFlds (.tmp 56)) E.tFlds),
                 (oQ 58 (.call { callee:=.builtin .len,args:=#[(.tmp 57)],argTypes:=#[E.tFlds] }) E.tI),
                 (oQ 59 (.move (.const (.int .i64 0))) E.tI)]),
                (.block 3 (.loop (sq [(rg [(oQ 60 (.binOp .lss E.tI (.tmp 59) (.tmp 58) E.tI) 0)]),
                   (.cond (.tmp 60)
                    .skip
                    (.exit 3)),
                   (.block 4 (sq [(rg [(oQ 61 (.move (.tmp 59)) E.tI),
                      (oQ 62 (.indexAddr E.tFlds (.tmp 57) (.tmp 59)) 0),
                      (oQ 63 (.load E.tFld (.tmp 62)) E.tFld),
                      (oQ 8 (.alloc E.tFld) 0),
                      (oQ 7 (.assign (.tmp 61)) E.tI),
                      ⟨none,.store E.tFld (.tmp 8) (.tmp 63),0,"",#[],none⟩]),
                     (rgd [(oQ 64 (.load E.tFld (.tmp 8)) E.tFld),
                      (oQ 65 (.load E.tT (.tmp 3)) E.tT),
                      (oQ 66 (.move (.tmp 7)) E.tI),
                      ⟨some 67,.call { callee:=.value (.func E.sAt),args:=#[(.tmp 65),(.tmp 66)],argTypes:=#[E.tT,E.tI] },E.tT,"",#[⟨1,.data⟩,⟨2,.data⟩],none⟩,
                      ⟨some 68,.call { callee:=.value (.func E.sUsual),args:=#[(.tmp 64),(.tmp 67)],argTypes:=#[E.tFld,E.tT] },E.tO,"",#[⟨0,.data⟩,⟨3,.data⟩,⟨3,.chain⟩],none⟩,
                      ⟨some 69,.unOp .not E.tO (.tmp 68),E.tO,"",#[⟨4,.data⟩],none⟩]),
                     (.cond (.tmp 69)
                      (sq [(rg [(oQ 4 (.assign (.const (.bool false))) E.tO)]),
                       .ret])
                      .skip)])),
                   (rg [(oQ 70 (.binOp .add E.tI (.tmp 59) (.const (.int .i64 1)) E.tI) E.tI),
                    (oQ 59 (.move (.tmp 70)) E.tI)])])))]),
               (rg [(oQ 71 (.fieldAddr E.tFld (.tmp 2) 7) 0),
                (oQ 72 (.load E.tFlds (.tmp 71)) E.tFlds),
                (oQ 73 (.fieldAddr E.tT (.tmp 3) 4) 0),
                (oQ 74 (.load E.tK (.tmp 73)) E.tK),
                (oQ 75 (.call { callee:=.value (.func E.sUnknown),args:=#[(.tmp 72),(.tmp 74)],argTypes:=#[E.tFlds,E.tK] }) E.tK),
                (oQ 76 (.call { callee:=.builtin .len,args:=#[(.tmp 75)],argTypes:=#[E.tK] }) E.tI),
                (oQ 77 (.binOp .eql E.tI (.tmp 76) (.const (.int .i64 0)) E.tI) E.tO),
                (oQ 4 (.assign (.tmp 77)) E.tO)]),
               .ret])
              .skip)]))]))]))]))]))]),
  (rgd [(oQ 78 (.fieldAddr E.tT (.tmp 3) 0) 0),
   ⟨some 79,.load E.tI64 (.tmp 78),E.tI64,"",#[⟨0,.data⟩],none⟩,
   (oQ 80 (.fieldAddr E.tFld (.tmp 2) 0) 0),
   ⟨some 81,.load E.tI (.tmp 80),E.tI,"",#[⟨2,.data⟩],none⟩,
   ⟨some 82,.call { callee:=.value (.func E.sWidth),args:=#[(.tmp 81)],argTypes:=#[E.tI] },E.tI,"",#[⟨3,.data⟩],none⟩,
   ⟨some 83,.call { callee:=.value (.func E.sFixed),args:=#[(.tmp 79),(.tmp 82)],argTypes:=#[E.tI64,E.tI] },E.tB,"",#[⟨1,.data⟩,⟨4,.data⟩,⟨4,.chain⟩],none⟩,
   (oQ 84 (.fieldAddr E.tFld (.tmp 2) 5) 0),
   ⟨some 85,.load E.tI64 (.tmp 84),E.tI64,"",#[⟨6,.data⟩],none⟩,
   (oQ 86 (.fieldAddr E.tFld (.tmp 2) 0) 0),
   ⟨some 87,.load E.tI (.tmp 86),E.tI,"",#[⟨8,.data⟩],none⟩,
   ⟨some 88,.call { callee:=.value (.func E.sWidth),args:=#[(.tmp 87)],argTypes:=#[E.tI] },E.tI,"",#[⟨9,.data⟩,⟨5,.chain⟩],none⟩,
   ⟨some 89,.call { callee:=.value (.func E.sFixed),args:=#[(.tmp 85),(.tmp 88)],argTypes:=#[E.tI64,E.tI] },E.tB,"",#[⟨7,.data⟩,⟨10,.data⟩,⟨10,.chain⟩],none⟩,
   ⟨some 90,.call { callee:=.value (.func E.sSame),args:=#[(.tmp 83),(.tmp 89)],argTypes:=#[E.tB,E.tB] },E.tO,"",#[⟨5,.data⟩,⟨11,.data⟩,⟨11,.chain⟩],none⟩,
   ⟨some 4,.assign (.tmp 90),E.tO,"",#[⟨12,.data⟩,⟨12,.chain⟩,⟨0,.phase⟩,⟨1,.phase⟩,⟨2,.phase⟩,⟨3,.phase⟩,⟨4,.phase⟩,⟨5,.phase⟩,⟨6,.phase⟩,⟨7,.phase⟩,⟨8,.phase⟩,⟨9,.phase⟩,⟨10,.phase⟩,⟨11,.phase⟩,⟨12,.phase⟩],none⟩]),
  .ret])
def c_sKnown (E:Env):Code :=
 (sq [(rg [(oQ 2 (.assign (.const (.int .u32 0))) E.tW)]),
  (rg [(oQ 3 (.assign (.const (.int .u32 0))) E.tW)]),
  (sq [(rg [(oQ 6 (.move (.tmp 0)) E.tFlds),
    (oQ 7 (.call { callee:=.builtin .len,args:=#[(.tmp 6)],argTypes:=#[E.tFlds] }) E.tI),
    (oQ 8 (.move (.const (.int .i64 0))) E.tI)]),
   (.block 0 (.loop (sq [(rg [(oQ 9 (.binOp .lss E.tI (.tmp 8) (.tmp 7) E.tI) 0)]),
      (.cond (.tmp 9)
       .skip
       (.exit 0)),
      (.block 1 (sq [(rg [(oQ 10 (.indexAddr E.tFlds (.tmp 6) (.tmp 8)) 0),
         (oQ 11 (.load E.tFld (.tmp 10)) E.tFld),
         (oQ 5 (.alloc E.tFld) 0),
         ⟨none,.store E.tFld (.tmp 5) (.tmp 11),0,"",#[],none⟩]),
        (rg [(oQ 12 (.fieldAddr E.tFld (.tmp 5) 4) 0),
         (oQ 13 (.load E.tI (.tmp 12)) E.tI),
         (oQ 14 (.binOp .geq E.tI (.tmp 13) (.const (.int .i64 0)) E.tI) E.tO)]),
        (.cond (.tmp 14)
         (rg [(oQ 15 (.move (.tmp 3)) E.tW),
          (oQ 16 (.fieldAddr E.tFld (.tmp 5) 4) 0),
          (oQ 17 (.load E.tI (.tmp 16)) E.tI),
          (oQ 18 (.convert E.tI E.tW (.tmp 17)) E.tW),
          (oQ 19 (.binOp .add E.tW (.tmp 18) (.const (.int .u32 1)) E.tW) E.tW),
          (oQ 20 (.call { callee:=.builtin .max,args:=#[(.tmp 15),(.tmp 19)],argTypes:=#[E.tW,E.tW] }) E.tW),
          (oQ 3 (.assign (.tmp 20)) E.tW)])
         .skip)])),
      (rg [(oQ 21 (.binOp .add E.tI (.tmp 8) (.const (.int .i64 1)) E.tI) E.tI),
       (oQ 8 (.move (.tmp 21)) E.tI)])])))]),
  (rg [(oQ 22 (.move (.tmp 3)) E.tW),
   (oQ 2 (.assign (.tmp 22)) E.tW)]),
  .ret])
def c_sUnknown (E:Env):Code :=
 (sq [(rg [(oQ 4 (.assign (.const (.slice none 0 0))) E.tK)]),
  (rg [(oQ 11 (.move (.tmp 0)) E.tFlds),
   (oQ 12 (.call { callee:=.value (.func E.sKnown),args:=#[(.tmp 11)],argTypes:=#[E.tFlds] }) E.tW),
   (oQ 5 (.assign (.tmp 12)) E.tW)]),
  (rg [(oQ 6 (.assign (.const (.slice none 0 0))) E.tK)]),
  (sq [(rg [(oQ 13 (.move (.tmp 1)) E.tK),
    (oQ 14 (.move (.tmp 1)) E.tK),
    (oQ 15 (.call { callee:=.builtin .len,args:=#[(.tmp 14)],argTypes:=#[E.tK] }) E.tI),
    (oQ 16 (.call { callee:=.builtin .min,args:=#[(.tmp 15),(.const (.int .i64 32767))],argTypes:=#[E.tI,E.tI] }) E.tI),
    (oQ 17 (.slice E.tK (.tmp 13) none (some (.tmp 16)) none) E.tK),
    (oQ 18 (.call { callee:=.builtin .len,args:=#[(.tmp 17)],argTypes:=#[E.tK] }) E.tI),
    (oQ 19 (.move (.const (.int .i64 0))) E.tI)]),
   (.block 0 (.loop (sq [(rg [(oQ 20 (.binOp .lss E.tI (.tmp 19) (.tmp 18) E.tI) 0)]),
      (.cond (.tmp 20)
       .skip
       (.exit 0)),
      (.block 1 (sq [(rg [(oQ 21 (.indexAddr E.tK (.tmp 17) (.tmp 19)) 0),
         (oQ 22 (.load E.tUnk (.tmp 21)) E.tUnk),
         (oQ 8 (.alloc E.tUnk) 0),
         ⟨none,.store E.tUnk (.tmp 8) (.tmp 22),0,"",#[],none⟩]),
        (rg [(oQ 9 (.assign (.const (.int .i64 0))) E.tI)]),
        (.block 2 (.loop (sq [(sq [(rgd [(oQ 23 (.move (.tmp 9)) E.tI),
             (oQ 24 (.move (.tmp 6)) E.tK),
             ⟨some 25,.call { callee:=.builtin .len,args:=#[(.tmp 24)],argTypes:=#[E.tK] },E.tI,"",#[⟨1,.data⟩],none⟩,
             ⟨some 26,.binOp .lss E.tI (.tmp 23) (.tmp 25) E.tI,E.tO,"",#[⟨0,.data⟩,⟨2,.data⟩],none⟩,
             ⟨some 27,.move (.tmp 26),E.tO,"",#[⟨3,.data⟩],none⟩,
             ⟨some 28,.move (.tmp 6),E.tK,"",#[⟨4,.guard⟩],some (4,true)⟩,
             ⟨some 29,.move (.tmp 9),E.tI,"",#[⟨4,.guard⟩],some (4,true)⟩,
             ⟨some 30,.indexAddr E.tK (.tmp 28) (.tmp 29),0,"",#[⟨5,.data⟩,⟨6,.data⟩,⟨4,.guard⟩],some (4,true)⟩,
             ⟨some 31,.fieldAddr E.tUnk (.tmp 30) 0,0,"",#[⟨7,.data⟩,⟨4,.guard⟩],some (4,true)⟩,
             ⟨some 32,.load E.tW (.tmp 31),E.tW,"",#[⟨8,.data⟩,⟨4,.guard⟩],some (4,true)⟩,
             ⟨some 33,.fieldAddr E.tUnk (.tmp 8) 0,0,"",#[⟨4,.guard⟩],some (4,true)⟩,
             ⟨some 34,.load E.tW (.tmp 33),E.tW,"",#[⟨10,.data⟩,⟨4,.guard⟩],some (4,true)⟩,
             ⟨some 35,.binOp .lss E.tW (.tmp 32) (.tmp 34) E.tW,E.tO,"",#[⟨9,.data⟩,⟨11,.data⟩,⟨4,.guard⟩],some (4,true)⟩,
             ⟨some 36,.pick (.tmp 27) (.tmp 35) (.const (.bool false)),E.tO,"",#[⟨4,.data⟩,⟨12,.data⟩],none⟩]),
            (.cond (.tmp 36)
             .skip
             (.exit 2))]),
           (.block 3 (rg [(oQ 37 (.move (.tmp 9)) E.tI),
             (oQ 38 (.binOp .add E.tI (.tmp 37) (.const (.int .i64 1)) E.tI) E.tI),
             (oQ 9 (.assign (.tmp 38)) E.tI)]))]))),
        (sq [(rgd [(oQ 39 (.fieldAddr E.tUnk (.tmp 8) 0) 0),
          ⟨some 40,.load E.tW (.tmp 39),E.tW,"",#[⟨0,.data⟩],none⟩,
          (oQ 41 (.move (.tmp 5)) E.tW),
          ⟨some 42,.binOp .lss E.tW (.tmp 40) (.tmp 41) E.tW,E.tO,"",#[⟨1,.data⟩,⟨2,.data⟩],none⟩,
          ⟨some 43,.move (.tmp 42),E.tO,"",#[⟨3,.data⟩],none⟩,
          ⟨some 44,.move (.tmp 9),E.tI,"",#[⟨4,.guard⟩],some (4,false)⟩,
          ⟨some 45,.move (.tmp 6),E.tK,"",#[⟨4,.guard⟩],some (4,false)⟩,
          ⟨some 46,.call { callee:=.builtin .len,args:=#[(.tmp 45)],argTypes:=#[E.tK] },E.tI,"",#[⟨6,.data⟩,⟨4,.guard⟩],some (4,false)⟩,
          ⟨some 47,.binOp .lss E.tI (.tmp 44) (.tmp 46) E.tI,E.tO,"",#[⟨5,.data⟩,⟨7,.data⟩,⟨4,.guard⟩],some (4,false)⟩,
          ⟨some 48,.move (.tmp 47),E.tO,"",#[⟨8,.data⟩,⟨4,.chain⟩,⟨4,.guard⟩],some (4,false)⟩,
          ⟨some 49,.move (.tmp 6),E.tK,"",#[⟨9,.guard⟩],some (9,true)⟩,
          ⟨some 50,.move (.tmp 9),E.tI,"",#[⟨9,.guard⟩],some (9,true)⟩,
          ⟨some 51,.indexAddr E.tK (.tmp 49) (.tmp 50),0,"",#[⟨10,.data⟩,⟨11,.data⟩,⟨9,.guard⟩],some (9,true)⟩,
          ⟨some 52,.fieldAddr E.tUnk (.tmp 51) 0,0,"",#[⟨12,.data⟩,⟨9,.guard⟩],some (9,true)⟩,
          ⟨some 53,.load E.tW (.tmp 52),E.tW,"",#[⟨13,.data⟩,⟨9,.guard⟩],some (9,true)⟩,
          ⟨some 54,.fieldAddr E.tUnk (.tmp 8) 0,0,"",#[⟨9,.guard⟩],some (9,true)⟩,
          ⟨some 55,.load E.tW (.tmp 54),E.tW,"",#[⟨15,.data⟩,⟨9,.guard⟩],some (9,true)⟩,
          ⟨some 56,.binOp .eql E.tW (.tmp 53) (.tmp 55) E.tW,E.tO,"",#[⟨14,.data⟩,⟨16,.data⟩,⟨9,.guard⟩],some (9,true)⟩,
          ⟨some 57,.pick (.tmp 48) (.tmp 56) (.const (.bool false)),E.tO,"",#[⟨9,.data⟩,⟨17,.data⟩,⟨4,.guard⟩],some (4,false)⟩,
          ⟨some 58,.pick (.tmp 43) (.const (.bool true)) (.tmp 57),E.tO,"",#[⟨4,.data⟩,⟨18,.data⟩],none⟩]),
         (.cond (.tmp 58)
          (.exit 1)
          .skip)]),
        (rg [(oQ 59 (.move (.tmp 6)) E.tK),
         (oQ 60 (.build E.tUnk #[]) E.tUnk),
         (oQ 61 (.buildSlice E.tK 1 #[(0,(.tmp 60))]) E.tK),
         (oQ 62 (.call { callee:=.builtin .append,args:=#[(.tmp 59),(.tmp 61)],argTypes:=#[E.tK,E.tK] }) E.tK),
         (oQ 6 (.assign (.tmp 62)) E.tK)]),
        (sq [(rg [(oQ 63 (.move (.tmp 6)) E.tK),
          (oQ 64 (.call { callee:=.builtin .len,args:=#[(.tmp 63)],argTypes:=#[E.tK] }) E.tI),
          (oQ 65 (.binOp .sub E.tI (.tmp 64) (.const (.int .i64 1)) E.tI) E.tI),
          (oQ 10 (.assign (.tmp 65)) E.tI)]),
         (.block 4 (.loop (sq [(sq [(rg [(oQ 66 (.move (.tmp 10)) E.tI),
              (oQ 67 (.move (.tmp 9)) E.tI),
              (oQ 68 (.binOp .gtr E.tI (.tmp 66) (.tmp 67) E.tI) E.tO)]),
             (.cond (.tmp 68)
              .skip
              (.exit 4))]),
            (.block 5 (rg [(oQ 71 (.move (.tmp 6)) E.tK),
              (oQ 72 (.move (.tmp 10)) E.tI),
              (oQ 73 (.move (.tmp 6)) E.tK),
              (oQ 74 (.move (.tmp 10)) E.tI),
              (oQ 75 (.binOp .sub E.tI (.tmp 74) (.const (.int .i64 1)) E.tI) E.tI),
              (oQ 76 (.indexAddr E.tK (.tmp 73) (.tmp 75)) 0),
              (oQ 77 (.load E.tUnk (.tmp 76)) E.tUnk),
              (oQ 78 (.indexAddr E.tK (.tmp 71) (.tmp 72)) 0),
              ⟨none,.store E.tUnk (.tmp 78) (.tmp 77),0,"",#[],none⟩])),
            (rg [(oQ 69 (.move (.tmp 10)) E.tI),
             (oQ 70 (.binOp .sub E.tI (.tmp 69) (.const (.int .i64 1)) E.tI) E.tI),
             (oQ 10 (.assign (.tmp 70)) E.tI)])])))]),
        (rg [(oQ 79 (.move (.tmp 6)) E.tK),
         (oQ 80 (.move (.tmp 9)) E.tI),
         (oQ 81 (.load E.tUnk (.tmp 8)) E.tUnk),
         (oQ 82 (.indexAddr E.tK (.tmp 79) (.tmp 80)) 0),
         ⟨none,.store E.tUnk (.tmp 82) (.tmp 81),0,"",#[],none⟩])])),
      (rg [(oQ 83 (.binOp .add E.tI (.tmp 19) (.const (.int .i64 1)) E.tI) E.tI),
       (oQ 19 (.move (.tmp 83)) E.tI)])])))]),
  (rg [(oQ 84 (.move (.tmp 6)) E.tK),
   (oQ 4 (.assign (.tmp 84)) E.tK)]),
  .ret])
def c_sPart (E:Env):Code :=
 (sq [(rg [(oQ 7 (.box E.tT (.tmp 3)) 0),
   (oQ 8 (.assign (.const (.slice none 0 0))) E.tB)]),
  (rg [(oQ 9 (.assign (.const (.slice none 0 0))) E.tB),
   (oQ 10 (.assign (.const (.slice none 0 0))) E.tB)]),
  (rg [(oQ 11 (.assign (.const (.int .i64 0))) E.tI)]),
  (sq [(rg [(oQ 21 (.move (.tmp 0)) E.tFlds),
    (oQ 22 (.call { callee:=.builtin .len,args:=#[(.tmp 21)],argTypes:=#[E.tFlds] }) E.tI),
    (oQ 23 (.move (.const (.int .i64 0))) E.tI)]),
   (.block 0 (.loop (sq [(rg [(oQ 24 (.binOp .lss E.tI (.tmp 23) (.tmp 22) E.tI) 0)]),
      (.cond (.tmp 24)
       .skip
       (.exit 0)),
      (.block 1 (sq [(rg [(oQ 25 (.move (.tmp 23)) E.tI),
         (oQ 26 (.indexAddr E.tFlds (.tmp 21) (.tmp 23)) 0),
         (oQ 27 (.load E.tFld (.tmp 26)) E.tFld),
         (oQ 13 (.alloc E.tFld) 0),
         (oQ 12 (.assign (.tmp 25)) E.tI),
         ⟨none,.store E.tFld (.tmp 13) (.tmp 27),0,"",#[],none⟩]),
        (rg [(oQ 28 (.fieldAddr E.tFld (.tmp 13) 4) 0),
         (oQ 29 (.load E.tI (.tmp 28)) E.tI),
         (oQ 30 (.binOp .lss E.tI (.tmp 29) (.const (.int .i64 0)) E.tI) E.tO),
         (oQ 31 (.move (.tmp 30)) E.tO),
         ⟨some 32,.load E.tFld (.tmp 13),E.tFld,"",#[],some (3,true)⟩,
         ⟨some 33,.move (.tmp 1),E.tI,"",#[],some (3,true)⟩,
         ⟨some 34,.call { callee:=.value (.func E.sHas),args:=#[(.tmp 32),(.tmp 33)],argTypes:=#[E.tFld,E.tI] },E.tO,"",#[],some (3,true)⟩,
         (oQ 35 (.pick (.tmp 31) (.tmp 34) (.const (.bool false))) E.tO)]),
        (.cond (.tmp 35)
         (rgd [(oQ 36 (.move (.tmp 9)) E.tB),
          (oQ 37 (.load E.tFld (.tmp 13)) E.tFld),
          (oQ 38 (.move (.tmp 1)) E.tI),
          (oQ 39 (.move (.tmp 2)) E.tO),
          (oQ 40 (.load E.tT (.tmp 7)) E.tT),
          (oQ 41 (.move (.tmp 12)) E.tI),
          ⟨some 42,.call { callee:=.value (.func E.sAt),args:=#[(.tmp 40),(.tmp 41)],argTypes:=#[E.tT,E.tI] },E.tT,"",#[⟨4,.data⟩,⟨5,.data⟩],none⟩,
          ⟨some 43,.call { callee:=.value (.func E.sField),args:=#[(.tmp 37),(.tmp 38),(.tmp 39),(.tmp 42)],argTypes:=#[E.tFld,E.tI,E.tO,E.tT] },E.tB,"",#[⟨1,.data⟩,⟨2,.data⟩,⟨3,.data⟩,⟨6,.data⟩,⟨6,.chain⟩],none⟩,
          ⟨some 44,.call { callee:=.builtin .append,args:=#[(.tmp 36),(.tmp 43)],argTypes:=#[E.tB,E.tB] },E.tB,"",#[⟨0,.data⟩,⟨7,.data⟩,⟨7,.chain⟩],none⟩,
          ⟨some 9,.assign (.tmp 44),E.tB,"",#[⟨8,.data⟩,⟨8,.chain⟩,⟨0,.phase⟩,⟨1,.phase⟩,⟨2,.phase⟩,⟨3,.phase⟩,⟨4,.phase⟩,⟨5,.phase⟩,⟨6,.phase⟩,⟨7,.phase⟩,⟨8,.phase⟩],none⟩])
         .skip)])),
      (rg [(oQ 45 (.binOp .add E.tI (.tmp 23) (.const (.int .i64 1)) E.tI) E.tI),
       (oQ 23 (.move (.tmp 45)) E.tI)])])))]),
  (sq [(rg [(oQ 46 (.move (.tmp 2)) E.tO),
    (oQ 47 (.unOp .not E.tO (.tmp 46)) E.tO)]),
   (.cond (.tmp 47)
    (sq [(rg [(oQ 48 (.move (.tmp 9)) E.tB),
      (oQ 8 (.assign (.tmp 48)) E.tB)]),
     .ret])
    .skip)]),
  (sq [(rg [(oQ 49 (.move (.tmp 0)) E.tFlds),
    (oQ 50 (.call { callee:=.value (.func E.sKnown),args:=#[(.tmp 49)],argTypes:=#[E.tFlds] }) E.tW),
    (oQ 51 (.convert E.tW E.tI (.tmp 50)) E.tI),
    (oQ 52 (.move (.const (.int .i64 0))) E.tI)]),
   (.block 2 (.loop (sq [(rg [(oQ 53 (.binOp .lss E.tI (.tmp 52) (.tmp 51) E.tI) E.tO)]),
      (.cond (.tmp 53)
       .skip
       (.exit 2)),
      (.block 3 (sq [(rg [(oQ 54 (.move (.tmp 52)) E.tI),
         (oQ 14 (.assign (.tmp 54)) E.tI)]),
        (rg [(oQ 55 (.move (.tmp 0)) E.tFlds),
         (oQ 56 (.call { callee:=.builtin .len,args:=#[(.tmp 55)],argTypes:=#[E.tFlds] }) E.tI),
         (oQ 57 (.move (.const (.int .i64 0))) E.tI)]),
        (.block 4 (.loop (sq [(rg [(oQ 58 (.binOp .lss E.tI (.tmp 57) (.tmp 56) E.tI) 0)]),
           (.cond (.tmp 58)
            .skip
            (.exit 4)),
           (.block 5 (sq [(rg [(oQ 59 (.move (.tmp 57)) E.tI),
              (oQ 60 (.indexAddr E.tFlds (.tmp 55) (.tmp 57)) 0),
              (oQ 61 (.load E.tFld (.tmp 60)) E.tFld),
              (oQ 16 (.alloc E.tFld) 0),
              (oQ 15 (.assign (.tmp 59)) E.tI),
              ⟨none,.store E.tFld (.tmp 16) (.tmp 61),0,"",#[],none⟩]),
             (rgd [(oQ 62 (.fieldAddr E.tFld (.tmp 16) 4) 0),
              ⟨some 63,.load E.tI (.tmp 62),E.tI,"",#[⟨0,.data⟩],none⟩,
              (oQ 64 (.move (.tmp 14)) E.tI),
              ⟨some 65,.binOp .eql E.tI (.tmp 63) (.tmp 64) E.tI,E.tO,"",#[⟨1,.data⟩,⟨2,.data⟩],none⟩,
              ⟨some 66,.move (.tmp 65),E.tO,"",#[⟨3,.data⟩],none⟩,
              ⟨some 67,.load E.tFld (.tmp 16),E.tFld,"",#[⟨4,.guard⟩],some (4,true)⟩,
              ⟨some 68,.load E.tT (.tmp 7),E.tT,"",#[⟨4,.guard⟩],some (4,true)⟩,
              ⟨some 69,.move (.tmp 15),E.tI,"",#[⟨4,.guard⟩],some (4,true)⟩,
              ⟨some 70,.call { callee:=.value (.func E.sAt),args:=#[(.tmp 68),(.tmp 69)],argTypes:=#[E.tT,E.tI] },E.tT,"",#[⟨6,.data⟩,⟨7,.data⟩,⟨4,.chain⟩,⟨4,.guard⟩],some (4,true)⟩,
              ⟨some 71,.call { callee:=.value (.func E.sUsual),args:=#[(.tmp 67),(.tmp 70)],argTypes:=#[E.tFld,E.tT] },E.tO,"",#[⟨5,.data⟩,⟨8,.data⟩,⟨8,.chain⟩,⟨4,.guard⟩],some (4,true)⟩,
              ⟨some 72,.unOp .not E.tO (.tmp 71),E.tO,"",#[⟨9,.data⟩,⟨4,.guard⟩],some (4,true)⟩,
              ⟨some 73,.pick (.tmp 66) (.tmp 72) (.const (.bool false)),E.tO,"",#[⟨4,.data⟩,⟨10,.data⟩],none⟩]),
             (.cond (.tmp 73)
              (sq [(rgd [(oQ 74 (.load E.tFld (.tmp 16)) E.tFld),
                (oQ 75 (.move (.tmp 1)) E.tI),
                (oQ 76 (.move (.tmp 2)) E.tO),
                (oQ 77 (.load E.tT (.tmp 7)) E.tT),
                (oQ 78 (.move (.tmp 15)) E.tI),
                ⟨some 79,.call { callee:=.value (.func E.sAt),args:=#[(.tmp 77),(.tmp 78)],argTypes:=#[E.tT,E.tI] },E.tT,"",#[⟨3,.data⟩,⟨4,.data⟩],none⟩,
                ⟨some 80,.call { callee:=.value (.func E.sField),args:=#[(.tmp 74),(.tmp 75),(.tmp 76),(.tmp 79)],argTypes:=#[E.tFld,E.tI,E.tO,E.tT] },E.tB,"",#[⟨0,.data⟩,⟨1,.data⟩,⟨2,.data⟩,⟨5,.data⟩,⟨5,.chain⟩],none⟩,
                ⟨some 17,.assign (.tmp 80),E.tB,"",#[⟨6,.data⟩,⟨6,.chain⟩,⟨0,.phase⟩,⟨1,.phase⟩,⟨2,.phase⟩,⟨3,.phase⟩,⟨4,.phase⟩,⟨5,.phase⟩,⟨6,.phase⟩],none⟩]),
               (rg [(oQ 81 (.move (.tmp 10)) E.tB),
                (oQ 82 (.move (.tmp 14)) E.tI),
                (oQ 83 (.convert E.tI E.tU64 (.tmp 82)) E.tU64),
                (oQ 84 (.call { callee:=.value (.func E.sUvar),args:=#[(.tmp 83)],argTypes:=#[E.tU64] }) E.tB),
                (oQ 85 (.call { callee:=.builtin .append,args:=#[(.tmp 81),(.tmp 84)],argTypes:=#[E.tB,E.tB] }) E.tB),
                (oQ 86 (.move (.tmp 17)) E.tB),
                (oQ 87 (.call { callee:=.builtin .len,args:=#[(.tmp 86)],argTypes:=#[E.tB] }) E.tI),
                (oQ 88 (.convert E.tI E.tU64 (.tmp 87)) E.tU64),
                (oQ 89 (.call { callee:=.value (.func E.sUvar),args:=#[(.tmp 88)],argTypes:=#[E.tU64] }) E.tB),
                (oQ 90 (.call { callee:=.builtin .append,args:=#[(.tmp 85),(.tmp 89)],argTypes:=#[E.tB,E.tB] }) E.tB),
                (oQ 91 (.move (.tmp 17)) E.tB),
                (oQ 92 (.call { callee:=.builtin .append,args:=#[(.tmp 90),(.tmp 91)],argTypes:=#[E.tB,E.tB] }) E.tB),
                (oQ 10 (.assign (.tmp 92)) E.tB)]),
               (rg [(oQ 93 (.move (.tmp 11)) E.tI),
                (oQ 94 (.binOp .add E.tI (.tmp 93) (.const (.int .i64 1)) E.tI) E.tI),
                (oQ 11 (.assign (.tmp 94)) E.tI)])])
              .skip)])),
           (rg [(oQ 95 (.binOp .add E.tI (.tmp 57) (.const (.int .i64 1)) E.tI) E.tI),
            (oQ 57 (.move (.tmp 95)) E.tI)])])))])),
      (rg [(oQ 96 (.binOp .add E.tI (.tmp 52) (.const (.int .i64 1)) E.tI) E.tI),
       (oQ 52 (.move (.tmp 96)) E.tI)])])))]),
  (sq [(rg [(oQ 97 (.move (.tmp 0)) E.tFlds),
    (oQ 98 (.fieldAddr E.tT (.tmp 7) 4) 0),
    (oQ 99 (.load E.tK (.tmp 98)) E.tK),
    (oQ 100 (.call { callee:=.value (.func E.sUnknown),args:=#[(.tmp 97),(.tmp 99)],argTypes:=#[E.tFlds,E.tK] }) E.tK),
    (oQ 101 (.call { callee:=.builtin .len,args:=#[(.tmp 100)],argTypes:=#[E.tK] }) E.tI),
    (oQ 102 (.move (.const (.int .i64 0))) E.tI)]),
   (.block 6 (.loop (sq [(rg [(oQ 103 (.binOp .lss E.tI (.tmp 102) (.tmp 101) E.tI) 0)]),
      (.cond (.tmp 103)
       .skip
       (.exit 6)),
      (.block 7 (sq [(rg [(oQ 104 (.indexAddr E.tK (.tmp 100) (.tmp 102)) 0),
         (oQ 105 (.load E.tUnk (.tmp 104)) E.tUnk),
         (oQ 19 (.alloc E.tUnk) 0),
         ⟨none,.store E.tUnk (.tmp 19) (.tmp 105),0,"",#[],none⟩]),
        (rg [(oQ 106 (.fieldAddr E.tUnk (.tmp 19) 1) 0),
         (oQ 107 (.load E.tB (.tmp 106)) E.tB),
         (oQ 108 (.call { callee:=.value (.func E.sWhole),args:=#[(.tmp 107)],argTypes:=#[E.tB] }) E.tB),
         (oQ 20 (.assign (.tmp 108)) E.tB)]),
        (rg [(oQ 109 (.move (.tmp 10)) E.tB),
         (oQ 110 (.fieldAddr E.tUnk (.tmp 19) 0) 0),
         (oQ 111 (.load E.tW (.tmp 110)) E.tW),
         (oQ 112 (.convert E.tW E.tU64 (.tmp 111)) E.tU64),
         (oQ 113 (.call { callee:=.value (.func E.sUvar),args:=#[(.tmp 112)],argTypes:=#[E.tU64] }) E.tB),
         (oQ 114 (.call { callee:=.builtin .append,args:=#[(.tmp 109),(.tmp 113)],argTypes:=#[E.tB,E.tB] }) E.tB),
         (oQ 115 (.move (.tmp 20)) E.tB),
         (oQ 116 (.call { callee:=.builtin .len,args:=#[(.tmp 115)],argTypes:=#[E.tB] }) E.tI),
         (oQ 117 (.convert E.tI E.tU64 (.tmp 116)) E.tU64),
         (oQ 118 (.call { callee:=.value (.func E.sUvar),args:=#[(.tmp 117)],argTypes:=#[E.tU64] }) E.tB),
         (oQ 119 (.call { callee:=.builtin .append,args:=#[(.tmp 114),(.tmp 118)],argTypes:=#[E.tB,E.tB] }) E.tB),
         (oQ 120 (.move (.tmp 20)) E.tB),
         (oQ 121 (.call { callee:=.builtin .append,args:=#[(.tmp 119),(.tmp 120)],argTypes:=#[E.tB,E.tB] }) E.tB),
         (oQ 10 (.assign (.tmp 121)) E.tB)]),
        (rg [(oQ 122 (.move (.tmp 11)) E.tI),
         (oQ 123 (.binOp .add E.tI (.tmp 122) (.const (.int .i64 1)) E.tI) E.tI),
         (oQ 11 (.assign (.tmp 123)) E.tI)])])),
      (rg [(oQ 124 (.binOp .add E.tI (.tmp 102) (.const (.int .i64 1)) E.tI) E.tI),
       (oQ 102 (.move (.tmp 124)) E.tI)])])))]),
  (rg [(oQ 125 (.move (.tmp 9)) E.tB),
   (oQ 126 (.move (.tmp 11)) E.tI),
   (oQ 127 (.convert E.tI E.tU64 (.tmp 126)) E.tU64),
   (oQ 128 (.call { callee:=.value (.func E.sUvar),args:=#[(.tmp 127)],argTypes:=#[E.tU64] }) E.tB),
   (oQ 129 (.call { callee:=.builtin .append,args:=#[(.tmp 125),(.tmp 128)],argTypes:=#[E.tB,E.tB] }) E.tB),
   (oQ 130 (.move (.tmp 10)) E.tB),
   (oQ 131 (.call { callee:=.builtin .append,args:=#[(.tmp 129),(.tmp 130)],argTypes:=#[E.tB,E.tB] }) E.tB),
   (oQ 8 (.assign (.tmp 131)) E.tB)]),
  .ret])
def c_sDefault (E:Env):Code :=
 (sq [(rg [(oQ 2 (.alloc E.tT) 0)]),
  (rg [(oQ 3 (.alloc E.tT) 0)]),
  (sq [(rg [(oQ 7 (.move (.tmp 0)) E.tFlds),
    (oQ 8 (.call { callee:=.builtin .len,args:=#[(.tmp 7)],argTypes:=#[E.tFlds] }) E.tI),
    (oQ 9 (.move (.const (.int .i64 0))) E.tI)]),
   (.block 0 (.loop (sq [(rg [(oQ 10 (.binOp .lss E.tI (.tmp 9) (.tmp 8) E.tI) 0)]),
      (.cond (.tmp 10)
       .skip
       (.exit 0)),
      (.block 1 (sq [(rg [(oQ 11 (.indexAddr E.tFlds (.tmp 7) (.tmp 9)) 0),
         (oQ 12 (.load E.tFld (.tmp 11)) E.tFld),
         (oQ 5 (.alloc E.tFld) 0),
         ⟨none,.store E.tFld (.tmp 5) (.tmp 12),0,"",#[],none⟩]),
        (rg [(oQ 13 (.fieldAddr E.tFld (.tmp 5) 5) 0),
         (oQ 14 (.load E.tI64 (.tmp 13)) E.tI64),
         (oQ 15 (.fieldAddr E.tFld (.tmp 5) 3) 0),
         (oQ 16 (.load E.tI (.tmp 15)) E.tI),
         (oQ 17 (.binOp .geq E.tI (.tmp 16) (.const (.int .i64 0)) E.tI) E.tO),
         (oQ 18 (.build E.tT #[(0,(.tmp 14)),(2,(.tmp 17))]) E.tT),
         (oQ 6 (.alloc E.tT) 0),
         ⟨none,.store E.tT (.tmp 6) (.tmp 18),0,"",#[],none⟩]),
        (sq [(rg [(oQ 19 (.fieldAddr E.tFld (.tmp 5) 0) 0),
          (oQ 20 (.load E.tI (.tmp 19)) E.tI),
          (oQ 21 (.binOp .eql E.tI (.tmp 20) (.const (.int .i64 10)) E.tI) E.tO)]),
         (.cond (.tmp 21)
          (rg [(oQ 22 (.fieldAddr E.tFld (.tmp 5) 7) 0),
           (oQ 23 (.load E.tFlds (.tmp 22)) E.tFlds),
           (oQ 24 (.call { callee:=.value (.func E.sDefault),args:=#[(.tmp 23)],argTypes:=#[E.tFlds] }) E.tT),
           (oQ 25 (.field E.tT (.tmp 24) 3) E.tS),
           (oQ 26 (.fieldAddr E.tT (.tmp 6) 3) 0),
           ⟨none,.store E.tS (.tmp 26) (.tmp 25),0,"",#[],none⟩])
          .skip)]),
        (rg [(oQ 27 (.fieldAddr E.tT (.tmp 3) 3) 0),
         (oQ 28 (.load E.tS (.tmp 27)) E.tS),
         (oQ 29 (.load E.tT (.tmp 6)) E.tT),
         (oQ 30 (.buildSlice E.tS 1 #[(0,(.tmp 29))]) E.tS),
         (oQ 31 (.call { callee:=.builtin .append,args:=#[(.tmp 28),(.tmp 30)],argTypes:=#[E.tS,E.tS] }) E.tS),
         (oQ 32 (.fieldAddr E.tT (.tmp 3) 3) 0),
         ⟨none,.store E.tS (.tmp 32) (.tmp 31),0,"",#[],none⟩])])),
      (rg [(oQ 33 (.binOp .add E.tI (.tmp 9) (.const (.int .i64 1)) E.tI) E.tI),
       (oQ 9 (.move (.tmp 33)) E.tI)])])))]),
  (rg [(oQ 34 (.load E.tT (.tmp 3)) E.tT),
   ⟨none,.store E.tT (.tmp 2) (.tmp 34),0,"",#[],none⟩]),
  .ret])
def c_sWrite (E:Env):Code :=
 (sq [(rg [(oQ 3 (.box E.tMsg (.tmp 0)) 0),
   (oQ 5 (.box E.tT (.tmp 2)) 0),
   (oQ 6 (.assign (.const (.slice none 0 0))) E.tB)]),
  (rg [(oQ 7 (.fieldAddr E.tMsg (.tmp 3) 0) 0),
   (oQ 8 (.load E.tFlds (.tmp 7)) E.tFlds),
   (oQ 9 (.move (.tmp 1)) E.tI),
   (oQ 10 (.fieldAddr E.tMsg (.tmp 3) 1) 0),
   (oQ 11 (.load E.tI (.tmp 10)) E.tI),
   (oQ 12 (.binOp .geq E.tI (.tmp 11) (.const (.int .i64 0)) E.tI) E.tO),
   (oQ 13 (.move (.tmp 12)) E.tO),
   ⟨some 14,.move (.tmp 1),E.tI,"",#[],some (6,true)⟩,
   ⟨some 15,.fieldAddr E.tMsg (.tmp 3) 1,0,"",#[],some (6,true)⟩,
   ⟨some 16,.load E.tI (.tmp 15),E.tI,"",#[],some (6,true)⟩,
   ⟨some 17,.binOp .geq E.tI (.tmp 14) (.tmp 16) E.tI,E.tO,"",#[],some (6,true)⟩,
   (oQ 18 (.pick (.tmp 13) (.tmp 17) (.const (.bool false))) E.tO),
   (oQ 19 (.load E.tT (.tmp 5)) E.tT),
   (oQ 20 (.call { callee:=.value (.func E.sPart),args:=#[(.tmp 8),(.tmp 9),(.tmp 18),(.tmp 19)],argTypes:=#[E.tFlds,E.tI,E.tO,E.tT] }) E.tB),
   (oQ 6 (.assign (.tmp 20)) E.tB)]),
  .ret])
def c_sKept (E:Env):Code :=
 (sq [(rg [(oQ 3 (.box E.tMsg (.tmp 0)) 0),
   (oQ 5 (.box E.tT (.tmp 2)) 0),
   (oQ 6 (.assign (.const (.slice none 0 0))) E.tB)]),
  (rgd [(oQ 7 (.move (.tmp 1)) E.tI),
   ⟨some 8,.call { callee:=.value (.func E.sFixed),args:=#[(.tmp 7),(.const (.int .i64 2))],argTypes:=#[E.tI64,E.tI] },E.tB,"",#[⟨0,.data⟩],none⟩,
   (oQ 9 (.load E.tMsg (.tmp 3)) E.tMsg),
   (oQ 10 (.move (.tmp 1)) E.tI),
   (oQ 11 (.load E.tT (.tmp 5)) E.tT),
   ⟨some 12,.call { callee:=.value (.func E.sWrite),args:=#[(.tmp 9),(.tmp 10),(.tmp 11)],argTypes:=#[E.tMsg,E.tI,E.tT] },E.tB,"",#[⟨2,.data⟩,⟨3,.data⟩,⟨4,.data⟩,⟨1,.chain⟩],none⟩,
   ⟨some 13,.call { callee:=.builtin .append,args:=#[(.tmp 8),(.tmp 12)],argTypes:=#[E.tB,E.tB] },E.tB,"",#[⟨1,.data⟩,⟨5,.data⟩,⟨5,.chain⟩],none⟩,
   ⟨some 6,.assign (.tmp 13),E.tB,"",#[⟨6,.data⟩,⟨6,.chain⟩,⟨0,.phase⟩,⟨1,.phase⟩,⟨2,.phase⟩,⟨3,.phase⟩,⟨4,.phase⟩,⟨5,.phase⟩,⟨6,.phase⟩],none⟩]),
  .ret])
def gl (E:Env):Code :=
 (sq [(rg [(oQ 4 (.assign (.const (.bool false))) E.tO)]),
  (sq [(rg [(oQ 6 (.move (.tmp 0)) E.tB),
    (oQ 7 (.call { callee:=.builtin .len,args:=#[(.tmp 6)],argTypes:=#[E.tB] }) E.tI),
    (oQ 8 (.move (.tmp 1)) E.tB),
    (oQ 9 (.call { callee:=.builtin .len,args:=#[(.tmp 8)],argTypes:=#[E.tB] }) E.tI),
    (oQ 10 (.binOp .neq E.tI (.tmp 7) (.tmp 9) E.tI) E.tO)]),
   (.cond (.tmp 10)
    (sq [(rg [(oQ 4 (.assign (.const (.bool false))) E.tO)]),
     .ret])
    .skip)]),
  (sq [(rg [(oQ 11 (.move (.tmp 0)) E.tB),
    (oQ 12 (.call { callee:=.builtin .len,args:=#[(.tmp 11)],argTypes:=#[E.tB] }) E.tI),
    (oQ 13 (.move (.const (.int .i64 0))) E.tI)]),
   (.block 0 (.loop (sq [(rg [(oQ 14 (.binOp .lss E.tI (.tmp 13) (.tmp 12) E.tI) 0)]),
      (.cond (.tmp 14)
       .skip
       (.exit 0)),
      (.block 1 (sq [(rg [(oQ 15 (.move (.tmp 13)) E.tI),
         (oQ 5 (.assign (.tmp 15)) E.tI)]),
        (rgd [(oQ 16 (.move (.tmp 0)) E.tB),
         (oQ 17 (.move (.tmp 5)) E.tI),
         ⟨some 18,.indexAddr E.tB (.tmp 16) (.tmp 17),0,"",#[⟨0,.data⟩,⟨1,.data⟩],none⟩,
         ⟨some 19,.load E.tU8 (.tmp 18),E.tU8,"",#[⟨2,.data⟩],none⟩,
         (oQ 20 (.move (.tmp 1)) E.tB),
         (oQ 21 (.move (.tmp 5)) E.tI),
         ⟨some 22,.indexAddr E.tB (.tmp 20) (.tmp 21),0,"",#[⟨4,.data⟩,⟨5,.data⟩],none⟩,
         ⟨some 23,.load E.tU8 (.tmp 22),E.tU8,"",#[⟨6,.data⟩],none⟩,
         ⟨some 24,.binOp .neq E.tU8 (.tmp 19) (.tmp 23) E.tU8,E.tO,"",#[⟨3,.data⟩,⟨7,.data⟩],none⟩]),
        (.cond (.tmp 24)
         (sq [(rg [(oQ 4 (.assign (.const (.bool false))) E.tO)]),
          .ret])
         .skip)])),
      (rg [(oQ 25 (.binOp .add E.tI (.tmp 13) (.const (.int .i64 1)) E.tI) E.tI),
       (oQ 13 (.move (.tmp 25)) E.tI)])])))]),
  (rg [(oQ 4 (.assign (.const (.bool true))) E.tO)]),
  .ret])
def ky (E:Env):Code :=
 (sq [(rg [(oQ 4 (.assign (.const (.int .i64 0))) E.tI)]),
  (rg [(oQ 5 (.move (.tmp 0)) E.tU8),
   (oQ 6 (.convert E.tU8 E.tI (.tmp 5)) E.tI),
   (oQ 7 (.move (.tmp 1)) E.tI),
   (oQ 8 (.binOp .add E.tI (.tmp 7) (.const (.int .i64 1)) E.tI) E.tI),
   (oQ 9 (.binOp .rem E.tI (.tmp 6) (.tmp 8) E.tI) E.tI),
   (oQ 4 (.assign (.tmp 9)) E.tI)]),
  .ret])
end Go.Km
namespace Go.Km
open Go Go.RowKit
inductive D where
 | int (n:Int)
 | bytes (o:Option (List UInt8))
 | list (o:Option (List D))
 | obj (l:List D) (tags:List (Nat × List UInt8))
 deriving Inhabited
def bv (b:UInt8):Value:=.int .u8 b.toNat
def be:Nat->Int->List UInt8
 | 0,_=>[]
 | k+1,n=>UInt8.ofNat ((n.fdiv (256 ^ k)) % 256).toNat::be k n
theorem qG:∀ (k:Nat) (n:Int),(be k n).length=k
 | 0,_=>rfl
 | k+1,n=>by simp[be,qG k n]
def uvF:Nat->Nat->List UInt8
 | 0,n=>[UInt8.ofNat n]
 | f+1,n=>if n<128 then [UInt8.ofNat n] else UInt8.ofNat (n % 128+128)::uvF f (n / 128)
def uvar (n:Nat):List UInt8:=uvF 9 n
def big:Nat:=2147483000
def Scal.wr:Scal->Int->List UInt8
 | .bool,n=>[if n != 0 then 1 else 0]
 | .i8,n=>be 1 n
 | .i16,n | .u16,n=>be 2 n
 | .i32,n=>be 4 n
 | .i64,n=>be 8 n
 | .f64,n=>be 8 n.toNat
def xS (fx:Bool) (l:List UInt8):List UInt8:=(if fx then uvar (l.length+1) else be 2 l.length)++l
def xK (fx:Bool):Option (List UInt8)->List UInt8
 | none=>if fx then [0] else be 2 (-1)
 | some l=>xS fx l
def xa (fx:Bool) (l:List UInt8):List UInt8:=(if fx then uvar (l.length+1) else be 4 l.length)++l
def xj (fx:Bool):Option (List UInt8)->List UInt8
 | none=>if fx then [0] else be 4 (-1)
 | some l=>xa fx l
def zg (fx:Bool) (n:Nat):List UInt8:=if fx then uvar (n+1) else be 4 n
def j7 (fx:Bool):List UInt8:=if fx then [0] else be 4 (-1)
def qT (x:Nat × List UInt8):List UInt8:=uvar x.1++uvar x.2.length++x.2
def zQ (l:List (Nat × List UInt8)):List UInt8:=uvar l.length++(l.map qT).flatten
def Scal.ok:Scal->Int->Prop
 | .bool,n=>n=0\/n=1
 | .i8,n=>-128<=n/\n<=127
 | .i16,n=>-32768<=n/\n<=32767
 | .u16,n=>0<=n/\n<=65535
 | .i32,n=>-2147483648<=n/\n<=2147483647
 | .i64,n=>-9223372036854775808<=n/\n<=9223372036854775807
 | .f64,n=>0<=n/\n<18446744073709551616
def TagsOk (tags:List (Nat × List UInt8)):Prop:=tags.Pairwise (fun x y=>x.1<y.1)/\∀ x ∈ tags,x.1<4294967296
def Ver.has (ver:Nat):Ver->Bool
 | .tag _ _=>false
 | .all=>true
 | .ge n=>decide (n<=ver)
 | .btw n m=>decide (n<=ver)&&decide (ver<=m)
def qv (k:Nat) (v:List UInt8):List (Nat × List UInt8)->List (Nat × List UInt8)
 | []=>[(k,v)]
 | x::l=>if k<x.1 then (k,v)::x::l else if k=x.1 then (k,v)::l else x::qv k v l
def Ty.isD:Ty->D->Bool
 | .scal _ df,.int n=>n==df
 | .list _ _ _,.list o=>(o.getD []).isEmpty
 | _,_=>false
def Ver.isTag:Ver->Bool
 | .tag _ _=>true
 | _=>false
def Ver.addTag (v:Ver) (fx d:Bool) (p:List UInt8) (tags:List (Nat × List UInt8)):List (Nat × List UInt8) :=
 match v with
 | .tag k _=>if fx && !d then qv k p tags else tags
 | _=>tags
def Ver.tagOk (v:Ver) (tags:List (Nat × List UInt8)):Prop :=
 match v with
 | .tag k _=>∀ x ∈ tags,k<x.1
 | _=>True
theorem Ver.addTag_no {v:Ver} (h:v.isTag=false) (fx d:Bool) (p:List UInt8) (tags:List (Nat × List UInt8)):v.addTag fx d p tags=tags:=by cases v<;>simp_all [Ver.isTag,Ver.addTag]
theorem Ver.tagOk_no {v:Ver} (h:v.isTag=false) (tags:List (Nat × List UInt8)):v.tagOk tags:=by cases v<;>simp_all [Ver.isTag,Ver.tagOk]
mutual
def Ty.wr (fx:Bool) (ver:Nat):Ty->D->List UInt8
 | .scal s _,.int n | .named s _ _,.int n=>s.wr n
 | .uuid,.bytes (some l)=>l
 | .text,.bytes (some l)=>xS fx l
 | .ntext,.bytes o=>xK fx o
 | .ntextFrom N,.bytes o=>if ver<N then xS fx (o.getD []) else xK fx o
 | .bytes,.bytes o=>xa fx (o.getD [])
 | .nbytes,.bytes o=>xj fx o
 | .list _ null _,.list none=>if null.isSome then j7 fx else zg fx 0
 | .list _ _ e,.list (some l)=>zg fx l.length++(l.map fun d=>e.wr fx ver d).flatten
 | .struct _ _ _ fs,.obj l tags=>fs.wr fx ver l tags
 | .nstruct _ _ _ _ _,.list none=>[255]
 | .nstruct _ _ _ fs _,.list (some [.obj l tags])=>1::fs.wr fx ver l tags
 | _,_=>[]
def Flds.wr (fx:Bool) (ver:Nat):Flds->List D->List (Nat × List UInt8)->List UInt8
 | .nil _,_,tags=>if fx then zQ tags else []
 | .cons v t r,d::l,tags=>(if v.has ver then t.wr fx ver d else [])++r.wr fx ver l (v.addTag fx (t.isD d) (t.wr fx ver d) tags)
 | .cons _ _ _,[],_=>[]
end
mutual
def Ty.size:Ty->Nat
 | .uuid=>16
 | .struct _ _ _ fs=>fs.size
 | _=>1
def Flds.size:Flds->Nat
 | .nil tags=>if tags then 1 else 0
 | .cons _ t r=>t.size+r.size
end
structure Sb where
 b:Nat
 T:List (Nat × List UInt8)->Prop
def wq (w:World) (sb:Sb) (B:Nat) (v:Value) (l:List UInt8):Prop :=
 (v=.slice none 0 0/\l=[])\/∃ c o cap,v=.slice (some ⟨c,o,none⟩) l.length cap/\(c=sb.b\/B<=c)/\c<w.heap.size/\qb w c o (l.map bv)
def xR (w:World) (sb:Sb) (B:Nat) (v:Value) (tags:List (Nat × List UInt8)):Prop :=
 TagsOk tags/\sb.T tags/\((v=.map none/\tags=[]) ∨
 ∃ q es clock,v=.map (some q)/\B<=q/\q<w.heap.size/\w.heap[q]? = some (.map es clock)/\(∀ e ∈ es.toList,e.born<clock)/\(es.toList.map (·.born)).Nodup ∧
  ∃ l:List (Nat × List UInt8),l.Perm tags/\l.length=es.size ∧
   ∀ (i:Nat) (x:Nat × List UInt8),l[i]? = some x->∃ e:MapEntry,es[i]? = some e/\e.key=.int .u32 x.1/\wq w sb B e.val x.2)
mutual
def Ty.Rep (w:World) (sb:Sb):Nat->Ty->List Value->D->Prop
 | _,.scal s _,cs,.int n=>cs=[s.val n]/\s.ok n
 | _,.named s _ _,cs,.int n=>cs=[s.val n]/\s.ok n
 | _,.uuid,cs,.bytes (some l)=>l.length=16/\cs=l.map bv
 | _,.text,cs,.bytes (some l)=>cs=[.string ⟨l.toArray⟩]
 | _,.ntext,cs,.bytes none | _,.ntextFrom _,cs,.bytes none=>cs=[.pointer none]
 | B,.ntext,cs,.bytes (some l) | B,.ntextFrom _,cs,.bytes (some l)=>∃ q,cs=[.pointer (some ⟨q,0,none⟩)]/\B<=q/\w.cell? ⟨q,0,none⟩=some (.string ⟨l.toArray⟩)
 | _,.bytes,cs,.bytes none | _,.nbytes,cs,.bytes none=>cs=[.slice none 0 0]
 | B,.bytes,cs,.bytes (some l) | B,.nbytes,cs,.bytes (some l)=>∃ q o cap,cs=[.slice (some ⟨q,o,none⟩) l.length cap]/\(q=sb.b\/B<=q)/\qb w q o (l.map bv)/\q<w.heap.size
 | _,.list _ _ _,cs,.list none=>cs=[.slice none 0 0]
 | B,.list _ _ e,cs,.list (some l)=>∃ q cap,cs=[.slice (some ⟨q,0,none⟩) l.length cap]/\B<=q/\q<w.heap.size/\l.length<=big ∧
   ∀ (i:Nat) (d:D),l[i]? = some d->∃ c:List Value,c.length=e.size/\qb w q (i*e.size) c/\e.Rep w sb (q+1) c d
 | B,.struct _ _ _ fs,cs,.obj l tags=>fs.Rep w sb B cs l tags
 | _,.nstruct _ _ _ _ _,cs,.list none=>cs=[.pointer none]
 | B,.nstruct _ _ _ fs _,cs,.list (some [.obj l tags])=>∃ q c,cs=[.pointer (some ⟨q,0,none⟩)]/\B<=q/\q<w.heap.size/\c.length=fs.size/\qb w q 0 c/\fs.Rep w sb (q+1) c l tags
 | _,_,_,_=>False
def Flds.Rep (w:World) (sb:Sb):Nat->Flds->List Value->List D->List (Nat × List UInt8)->Prop
 | B,.nil t,cs,[],tags=>if t then ∃ v,cs=[v]/\xR w sb B v tags else cs=[]/\tags=[]
 | B,.cons v t r,cs,d::l,tags=>t.Rep w sb B (cs.take t.size) d/\r.Rep w sb B (cs.drop t.size) l tags/\v.tagOk tags
 | _,_,_,_,_=>False
end
end Go.Km
namespace Go.Km
open Go Go.RowKit
attribute [local irreducible] vc rO_
section
variable {P : Program} {Q : Exit → Act → World → Prop} {a : Act} {w : World} {K : Nat → Prop}
theorem vS {c:Code} {r:List Code} (h:vc P c (Exit.then (vc P (sq r) Q) Q) a w):vc P (sq (c::r)) Q a w:=by
 cases r with
 | nil =>
  refine qW _ h ?_
  intro e a w h
  cases e<;>first | exact vc_skip_inv h | exact h
 | cons d r=>exact vc_seq h
theorem vN (h:Q .normal a w):vc P (sq []) Q a w:=vK h
theorem j1 {l r:List Code} (h:vc P (sq l) (Exit.then (vc P (sq r) Q) Q) a w):vc P (sq (l++r)) Q a w:=by
 induction l generalizing a w with
 | nil=>exact vc_skip_inv h
 | cons c l ih =>
  have hh:vc P c (Exit.then (vc P (sq l) (Exit.then (vc P (sq r) Q) Q)) (Exit.then (vc P (sq r) Q) Q)) a w:=by
   cases l with
   | nil=>exact qW c h (fun e a w h=>by cases e<;>first | exact vK h | exact h)
   | cons d l=>exact vc_seq_inv h
  refine vS (qW _ hh ?_)
  intro e a w h
  cases e<;>first | exact ih h | exact h
theorem vc_sq_flat {l:List Code} {r:List Code} (h:vc P (sq (l++r)) Q a w):vc P (sq (sq l::r)) Q a w:=by
 have hh:vc P (sq l) (Exit.then (vc P (sq r) Q) Q) a w:=by
  induction l generalizing a w with
  | nil=>exact vK h
  | cons c l ih =>
   have hc:vc P c (Exit.then (vc P (sq (l++r)) Q) Q) a w:=by
    cases hlr:l++r with
    | nil =>
     have:vc P (sq (c::(l++r))) Q a w:=h
     rw[hlr] at this
     exact qW c this (fun e a w h=>by cases e<;>first | exact vK h | exact h)
    | cons d m =>
     have:vc P (sq (c::(l++r))) Q a w:=h
     rw[hlr] at this
     exact vc_seq_inv this
   refine vS (qW c hc ?_)
   intro e a w h
   cases e<;>first | exact ih h | exact h
 exact vS hh
theorem vR {l:List Oper} (hg:∀ o ∈ l,o.guard=none) (h:rO_ P Q l a w):vc P (rg l) Q a w:=vc_run hg h
theorem vX {l:List Oper} {r:List Code} (h:rO_ P (Exit.then (vc P (sq r) Q) Q) l a w) (hg:(l.all fun o=>o.guard.isNone)=true:=by rfl):vc P (sq (rg l::r)) Q a w:=vS (vR (fun o ho=>Option.isNone_iff_eq_none.1 (List.all_eq_true.1 hg o ho)) h)
set_option maxHeartbeats 400000 in
theorem m_load {TP TU T:TypeId} {x s f t b o off:Nat} {val:Value} (hs:a.eval (.tmp s)=.pointer (some ⟨b,o,none⟩)) (hf:qk P TU f=some off) (hT:qQ P T=true)
  (hc:w.cell? ⟨b,o+off,none⟩=some val) (hx:¬ K x) (ht:∀ d,t<=d->¬ K d) (hxt:x<t) (hsz:t+4<=a.tmps.size)
  (k:∀ a',Fr K a a'->a'.eval (.tmp x)=val->Q .normal a' w):vc P (yD TP TU T x s f t) Q a w:=by
 refine vR zS ?_
 refine rM ?_
 refine qY (ad:=⟨b,o,none⟩) zA ?_
 refine rF (b:=b) (o:=o) zE hf ?_
 refine rL (b:=b) (o:=o+off) zE hT hc ?_
 refine rA (dn ?_)
 refine k _ ?_ zE
 exact (((((Fr.refl K a).put _ (ht _ zH)).put _ (ht _ zH)).put _ (ht _ zH)).put _ (ht _ zH)).put _ hx
set_option maxHeartbeats 400000 in
theorem m_loadArr {TP TU T:TypeId} {x s f t b o off:Nat} {cs z:List Value} (hs:a.eval (.tmp s)=.pointer (some ⟨b,o,none⟩)) (hf:qk P TU f=some off) (hT:z7 P T=some cs.length)
  (hz:qK P T=some (.agg z.toArray)) (hzl:z.length=cs.length) (h1:∀ v ∈ cs,v.oneCell'=true)
  (hc:qb w b (o+off) cs) (hx:¬ K x) (ht:∀ d,t<=d->¬ K d) (hxt:x<t) (hsz:t+4<=a.tmps.size)
  (k:∀ a' w' q,Fr K a a'->a'.eval (.tmp x)=.pointer (some ⟨q,0,none⟩)->w.heap.size<=q->qb w' q 0 cs->Grow w w'->Q .normal a' w'):vc P (wLoadArr TP TU T x s f t) Q a w:=by
 refine vR zS ?_
 refine rM ?_
 refine qY (ad:=⟨b,o,none⟩) zA ?_
 refine rF (b:=b) (o:=o) zE hf ?_
 refine qf (b:=b) (o:=o+off) zE hT hc ?_
 refine qI hz ?_
 have hfree:∀ i,i<cs.length->qt (w.alloc (.cells (Value.agg z.toArray).cells T)) w.heap.size (0+i):=by
  exact fun i hi=>qm w _ T (by simp[Value.cells];omega)
 refine qu (b:=w.heap.size) (o:=0) (cs:=cs) zE zE h1 hT hfree ?_
 refine dn ?_
 refine k _ _ w.heap.size ?_ zE (Nat.le_refl _) ?_ ?_
 ·exact (((((Fr.refl K a).put _ (ht _ zH)).put _ (ht _ zH)).put _ (ht _ zH)).put _ (ht _ zH)).put _ hx
 ·intro i v hv
  exact qg _ _ _ _ (fun j hj=>(hfree j hj).1) i v hv
 ·refine ((Eff.refl _ w).alloc _).trans' (qe _ _ _ _) ?_
  rintro k i hk ⟨rfl,_⟩
  omega
theorem m_app {E:Env} {F:FuncId} {T:TypeId} {x t:Nat} {dv arg:Value} {S:Value->World->Prop} (hd:a.eval (.tmp 1)=dv) (hx:a.eval (.tmp x)=arg) (hc:qa P F #[dv,arg] w S)
  (ht:∀ d,t<=d->¬ K d) (hk1:¬ K 1) (h1:1<t) (hxt:x<t) (hsz:t+3<=a.tmps.size) (k:∀ a' v' w',Fr K a a'->a'.eval (.tmp 1)=v'->S v' w'->Q .normal a' w'):vc P (kL E F T x t) Q a w:=by
 refine vR zS ?_
 refine rM (rM ?_)
 refine q8 (args:=#[dv,arg]) ?_ hc ?_
 ·simp only[lM]
  simp (disch:=(try simp only[sP]);omega) only[eV,hd,hx]
 intro v' w' hs
 refine rA (dn ?_)
 refine k _ v' _ ?_ zE hs
 exact ((((Fr.refl K a).put _ (ht _ zH)).put _ (ht _ zH)).put _ (ht _ zH)).put _ hk1
theorem m_appArr {E:Env} {F:FuncId} {T:TypeId} {x t q:Nat} {dv:Value} {cs:List Value} {S:Value->World->Prop} (hd:a.eval (.tmp 1)=dv) (hx:a.eval (.tmp x)=.pointer (some ⟨q,0,none⟩))
  (hT:z7 P T=some cs.length) (hcs:qb w q 0 cs) (hc:qa P F #[dv,.agg cs.toArray] w S)
  (ht:∀ d,t<=d->¬ K d) (hk1:¬ K 1) (h1:1<t) (hxt:x<t) (hsz:t+3<=a.tmps.size) (k:∀ a' v' w',Fr K a a'->a'.eval (.tmp 1)=v'->S v' w'->Q .normal a' w'):vc P (wAppArr E F T x t) Q a w:=by
 refine vR zS ?_
 refine rM ?_
 refine qf (b:=q) (o:=0) zA hT hcs ?_
 refine q8 (args:=#[dv,.agg cs.toArray]) ?_ hc ?_
 ·simp only[lM]
  simp (disch:=(try simp only[sP]);omega) only[eV,hd]
 intro v' w' hs
 refine rA (dn ?_)
 refine k _ v' _ ?_ zE hs
 exact ((((Fr.refl K a).put _ (ht _ zH)).put _ (ht _ zH)).put _ (ht _ zH)).put _ hk1
theorem m_lens {E:Env} {F:FuncId} {T e:TypeId} {s x t len cap:Nat} {ad:Option Addr} {dv:Value} {S:Value->World->Prop} (hd:a.eval (.tmp 1)=dv) (hx:a.eval (.tmp x)=.slice ad len cap)
  (hT:xu P T=some (e,s)) (hc:qa P F #[dv,.int .i64 len] w S)
  (ht:∀ d,t<=d->¬ K d) (hk1:¬ K 1) (h1:1<t) (hxt:x<t) (hsz:t+4<=a.tmps.size) (k:∀ a' v' w',Fr K a a'->a'.eval (.tmp 1)=v'->S v' w'->Q .normal a' w'):vc P (wLens E F T x t) Q a w:=by
 refine vR zS ?_
 refine rM (rM ?_)
 refine x7 (ad:=ad) (n:=len) (c:=cap) hT zA ?_
 refine q8 (args:=#[dv,.int .i64 len]) ?_ hc ?_
 ·simp only[lM]
  simp (disch:=(try simp only[sP]);omega) only[eV,hd]
 intro v' w' hs
 refine rA (dn ?_)
 refine k _ v' _ ?_ zE hs
 exact (((((Fr.refl K a).put _ (ht _ zH)).put _ (ht _ zH)).put _ (ht _ zH)).put _ (ht _ zH)).put _ hk1
theorem yj {d T x ty p af g e s ad len cap r} (hT:xu P T=some (e,s)) (hx:a.eval x=.slice ad len cap) (h:rO_ P Q r (a.put (some d) (.bool ad.isNone)) w) :
  rO_ P Q (⟨some d,.binOp .eql T x (.const (.slice none 0 0)) T,ty,p,af,g⟩::r) a w:=by
 obtain ⟨hu,_⟩:=zW hT
 refine st ?_
 have hb:(binOp .eql T (.slice ad len cap) (.slice none 0 0)).run P w=.ok (.bool ad.isNone) w:=by
  have h0:∀ k:Nat,(Op.equalIn (k+1) T (.slice ad len cap) (.slice none 0 0)).run P w=.ok ad.isNone w:=fun k=>by
   cases ad<;>simp[Op.equalIn,run_underlying hu]
  simp only[binOp]
  simp[Op.equal,Op.maxDepth,h0 9999]
 simp only[Oper.wp,execOp,hx,xg,eqGuard_at_slice,hb,Sem.run_bind,Sem.run_pure,Result.andThen_ok,Oper.upon_value]
 exact h
theorem m_nlens {E:Env} {F:FuncId} {T e:TypeId} {s x t len cap:Nat} {ad:Option Addr} {dv:Value} {S:Value->World->Prop} (hd:a.eval (.tmp 1)=dv) (hx:a.eval (.tmp x)=.slice ad len cap)
  (hT:xu P T=some (e,s)) (hc:qa P F #[dv,.int .i64 len,.bool ad.isNone] w S)
  (ht:∀ d,t<=d->¬ K d) (hk1:¬ K 1) (h1:1<t) (hxt:x<t) (hsz:t+6<=a.tmps.size) (k:∀ a' v' w',Fr K a a'->a'.eval (.tmp 1)=v'->S v' w'->Q .normal a' w'):vc P (wNLens E F T x t) Q a w:=by
 refine vR zS ?_
 refine rM (rM ?_)
 refine x7 (ad:=ad) (n:=len) (c:=cap) hT zA ?_
 refine rM ?_
 refine yj (ad:=ad) (len:=len) (cap:=cap) hT zA ?_
 refine q8 (args:=#[dv,.int .i64 len,.bool ad.isNone]) ?_ hc ?_
 ·simp only[lM]
  simp (disch:=(try simp only[sP]);omega) only[eV,hd]
 intro v' w' hs
 refine rA (dn ?_)
 refine k _ v' _ ?_ zE hs
 exact (((((((Fr.refl K a).put _ (ht _ zH)).put _ (ht _ zH)).put _ (ht _ zH)).put _ (ht _ zH)).put _ (ht _ zH)).put _ (ht _ zH)).put _ hk1
def qz (P:Program) (dj:Nat) (Q:Exit->Act->World->Prop):List Oper->Act->World->Prop
 | [],a,w=>Q .normal a w
 | o::r,a,w=>match o.guard with
  | none=>o.wp P a w (qz P dj Q r) Q
  | some (_,want)=>∃ b,a.eval (.tmp dj)=.bool b/\(if b=want then o.wp P a w (qz P dj Q r) Q else qz P dj Q r (a.put o.dst undef) w)
theorem yielded_of {ops:Array Oper} {j dj:Nat} {o:Oper} {b:Bool} (hj:ops[j]? = some o) (hd:o.dst=some dj) (h:a.eval (.tmp dj)=.bool b):yielded ops a.tmps j=some b:=by
 unfold yielded
 simp only[hj,Option.bind_some,hd]
 simp only[Act.eval,Array.getD_eq_getD_getElem?] at h
 cases ht:a.tmps[dj]? with
 | none=>simp[ht,undef] at h
 | some v=>simp only[ht,Option.getD_some] at h;subst h;rfl
theorem vc_runG {l:List Oper} {dj:Nat} (hg:∀ o ∈ l,o.guard=none\/∃ want,o.guard=some (2,want)) (hd:(l[2]?).bind (·.dst)=some dj) (h:qz P dj Q l a w):vc P (rg l) Q a w:=by
 refine vc_ops ?_
 simp only[List.size_toArray]
 have key:∀ (suf pre:List Oper) (a:Act) (w:World),l=pre++suf->qz P dj Q suf a w->wpOps P l.toArray Q (List.range' pre.length suf.length) a w:=by
  intro suf
  induction suf with
  | nil=>exact fun pre a w _ h=>h
  | cons o r ih =>
   intro pre a w hl h
   have hi:l.toArray[pre.length]? = some o:=by simp[hl]
   simp only[List.length_cons,List.range'_succ,wpOps,hi]
   have hn:∀ a w,qz P dj Q r a w->wpOps P l.toArray Q (List.range' (pre.length+1) r.length) a w:=by
    intro a w h
    have:=ih (pre++[o]) a w (by simp[hl]) h
    simpa using this
   have hwp:o.wp P a w (qz P dj Q r) Q->o.wp P a w (wpOps P l.toArray Q (List.range' (pre.length+1) r.length)) Q:=by
    intro h
    unfold Oper.wp at h ⊢
    revert h
    generalize (execOp a.eval o).run P w=res
    intro h
    unfold Oper.upon at h ⊢
    split at h<;>first
     | exact hn _ _ h
     | exact h
     | (exact Calls.mono h (fun e w' hh=>by cases e<;>first | exact hn _ _ hh | exact hh))
     | (exact Rows.mono h (fun _ _ hh=>hn _ _ hh))
   rcases hg o (by simp[hl]) with ho | ⟨want,ho⟩
   ·simp only[qz,ho] at h
    rw[if_pos (by simp[Region.wanted,ho])]
    exact .inl (hwp h)
   ·simp only[qz,ho] at h
    obtain ⟨b,hb,h⟩:=h
    cases h2:l[2]? with
    | none=>simp[h2] at hd
    | some o2 =>
     simp only[h2,Option.bind_some] at hd
     have hy:=yielded_of (ops:=l.toArray) (j:=2) (by simpa using h2) hd hb
     have hwt:Region.wanted o (yielded l.toArray a.tmps)=(b==want):=by simp[Region.wanted,ho,hy]
     rw[hwt]
     by_cases hbw:b=want
     ·rw[if_pos hbw] at h
      rw[if_pos (by simpa using hbw)]
      exact .inl (hwp h)
     ·rw[if_neg hbw] at h
      rw[if_neg (by simpa using hbw)]
      exact hn _ _ h
 have:=key l [] a w rfl h
 simpa [List.range_eq_range'] using this
section
variable {dj : Nat} {r : List Oper}
theorem g_dn (h:Q .normal a w):qz P dj Q [] a w:=h
theorem g_want {d op t p af k want b} (hb:a.eval (.tmp dj)=.bool b) (hw:b=want) (h:qz P dj Q (⟨d,op,t,p,af,none⟩::r) a w):qz P dj Q (⟨d,op,t,p,af,some (k,want)⟩::r) a w :=
 ⟨b,hb,by rw[if_pos hw];exact h⟩
theorem g_skip {d op t p af k want b} (hb:a.eval (.tmp dj)=.bool b) (hw:b≠want) (h:qz P dj Q r (a.put d undef) w):qz P dj Q (⟨d,op,t,p,af,some (k,want)⟩::r) a w :=
 ⟨b,hb,by rw[if_neg hw];exact h⟩
theorem g_mv {d:Nat} {x t p af} (h:qz P dj Q r (a.put (some d) (a.eval x)) w):qz P dj Q (⟨some d,.move x,t,p,af,none⟩::r) a w:=h
theorem g_geq {d:Nat} {xt x y yt ty p af k m n} (hx:a.eval x=.int k m) (hy:a.eval y=.int k n) (h:qz P dj Q r (a.put (some d) (.bool (decide (m ≥ n)))) w):qz P dj Q (⟨some d,.binOp .geq xt x y yt,ty,p,af,none⟩::r) a w:=by
 show Oper.wp P _ a w (qz P dj Q r) Q
 simp only[Oper.wp,execOp,hx,hy,eqGuard_at_int,binOp_geq,Sem.run_bind,Sem.run_pure,Result.andThen_ok,Oper.upon_value]
 exact h
theorem g_leq {d:Nat} {xt x y yt ty p af k m n} (hx:a.eval x=.int k m) (hy:a.eval y=.int k n) (h:qz P dj Q r (a.put (some d) (.bool (decide (m<=n)))) w):qz P dj Q (⟨some d,.binOp .leq xt x y yt,ty,p,af,none⟩::r) a w:=by
 show Oper.wp P _ a w (qz P dj Q r) Q
 simp only[Oper.wp,execOp,hx,hy,eqGuard_at_int,binOp_leq,Sem.run_bind,Sem.run_pure,Result.andThen_ok,Oper.upon_value]
 exact h
theorem g_lss {d:Nat} {xt x y yt ty p af k m n} (hx:a.eval x=.int k m) (hy:a.eval y=.int k n) (h:qz P dj Q r (a.put (some d) (.bool (decide (m<n)))) w):qz P dj Q (⟨some d,.binOp .lss xt x y yt,ty,p,af,none⟩::r) a w:=by
 show Oper.wp P _ a w (qz P dj Q r) Q
 simp only[Oper.wp,execOp,hx,hy,eqGuard_at_int,binOp_lss,Sem.run_bind,Sem.run_pure,Result.andThen_ok,Oper.upon_value]
 exact h
theorem g_eql {d:Nat} {xt x y yt ty p af k m n} (hx:a.eval x=.int k m) (hy:a.eval y=.int k n) (h:qz P dj Q r (a.put (some d) (.bool (m==n))) w):qz P dj Q (⟨some d,.binOp .eql xt x y yt,ty,p,af,none⟩::r) a w:=by
 show Oper.wp P _ a w (qz P dj Q r) Q
 simp only[Oper.wp,execOp,hx,hy,eqGuard_at_int,binOp_eql,Sem.run_bind,Sem.run_pure,Result.andThen_ok,Oper.upon_value]
 exact h
theorem g_pick {d:Nat} {c x y ty p af v b} (hc:a.eval c=.bool b) (hv:(if b=true then a.eval x else a.eval y)=v) (h:qz P dj Q r (a.put (some d) v) w):qz P dj Q (⟨some d,.pick c x y,ty,p,af,none⟩::r) a w:=by
 show Oper.wp P _ a w (qz P dj Q r) Q
 simp only[Oper.wp,execOp,hc,asBool,Sem.run_bind,Sem.run_pure,Result.andThen_ok,Oper.upon_value,hv]
 exact h
end
attribute [local irreducible] qz
theorem m_flex {E:Env} {x:Cx} {t m:Nat} {A B:Tmp->Code} {fx:Bool} (hfl:∀ f,x.fl=some f->a.eval (.tmp f)=.bool fx/\f<t) (hno:x.fl=none->fx=false) (ht:∀ d,t<=d->¬ K d) (h1:1<t) (hsz:t+x.nt m<=a.tmps.size)
  (hA:fx=true->∀ a' t',Fr K a a'->t<=t'->t'+m<=a.tmps.size->(∀ k,k<t->a'.eval (.tmp k)=a.eval (.tmp k))->vc P (A t') Q a' w)
  (hB:fx=false->∀ a' t',Fr K a a'->t<=t'->t'+m<=a.tmps.size->(∀ k,k<t->a'.eval (.tmp k)=a.eval (.tmp k))->vc P (B t') Q a' w):vc P (kE E x t m A B) Q a w:=by
 unfold kE
 cases hx:x.fl with
 | none =>
  simp only[hx,Cx.nt] at hsz ⊢
  exact hB (hno hx) a t (Fr.refl _ _) (Nat.le_refl _) hsz (fun _ _=>rfl)
 | some f =>
  simp only[hx,Cx.nt] at hsz ⊢
  obtain ⟨hf,hfn⟩:=hfl f hx
  refine vX (rM (dn ?_))
  have hfr:Fr K a (a.put (some t) (a.eval (.tmp f))):=(Fr.refl K a).put _ (ht _ zH)
  have he:∀ k,k<t->(a.put (some t) (a.eval (.tmp f))).eval (.tmp k)=a.eval (.tmp k):=fun k hk=>qi _ _ _ _ zH
  refine vS (vC (t:=fx) zA ?_ ?_)
  ·exact fun h=>qW _ (hA h _ (t+1) hfr zH zH he) (fun e a w h=>by cases e<;>first | exact vN h | exact h)
  ·exact fun h=>qW _ (hB h _ (t+1+m) hfr zH zH he) (fun e a w h=>by cases e<;>first | exact vN h | exact h)
theorem m_ver {E:Env} {x:Cx} {v:Ver} {t ver:Nat} {body:Code} (hvt:v.isTag=false) (hv:a.eval (.tmp x.vs)=.int .i16 (ver:Int)) (hvs:x.vs<t) (ht:∀ d,t<=d->¬ K d) (hsz:t+v.nt<=a.tmps.size)
  (hyes:v.has ver=true->∀ a',Fr K a a'->(∀ k,k<t->a'.eval (.tmp k)=a.eval (.tmp k))->vc P body Q a' w)
  (hno:v.has ver=false->∀ a',Fr K a a'->(∀ k,k<t->a'.eval (.tmp k)=a.eval (.tmp k))->Q .normal a' w):vc P (ifVer E x v t body) Q a w:=by
 unfold ifVer
 cases v with
 | tag _ _=>cases hvt
 | all=>exact hyes rfl a (Fr.refl _ _) (fun _ _=>rfl)
 | ge m =>
  simp only[Ver.nt] at hsz
  refine vX (rM ?_)
  refine kX (k:=.i16) (m:=ver) (n:=m) zA rfl ?_
  refine dn ?_
  refine vS (vC (t:=decide ((ver:Int) ≥ m)) zE ?_ ?_)
  ·intro h
   have hd:(Ver.ge m).has ver=true:=by simp only[Ver.has,decide_eq_true_eq] at h ⊢;omega
   exact qW _ (hyes hd _ (((Fr.refl K a).put _ (ht _ zH)).put _ (ht _ zH)) (fun k hk=>by rw[qi _ _ _ _ zH,qi _ _ _ _ zH])) (fun e a w h=>by cases e<;>first | exact vN h | exact h)
  ·intro h
   have hd:(Ver.ge m).has ver=false:=by simp only[Ver.has,decide_eq_false_iff_not] at h ⊢;omega
   exact vK (vN (hno hd _ (((Fr.refl K a).put _ (ht _ zH)).put _ (ht _ zH)) (fun k hk=>by rw[qi _ _ _ _ zH,qi _ _ _ _ zH])))
 | btw m m' =>
  simp only[Ver.nt] at hsz
  refine vS (vc_runG (dj:=t+2) zS rfl ?_)
  refine g_mv ?_
  refine g_geq (k:=.i16) (m:=ver) (n:=m) zA rfl ?_
  refine g_mv ?_
  have hfr:Fr K a ((a.put (some t) (a.eval (.tmp x.vs))).put (some (t+1)) (.bool (decide ((ver:Int) ≥ m)))):=((Fr.refl K a).put _ (ht _ zH)).put _ (ht _ zH)
  by_cases h:(ver:Int) ≥ m
  ·refine g_want (b:=decide ((ver:Int) ≥ m)) zE (by simpa using h) ?_
   refine g_mv ?_
   refine g_want (b:=decide ((ver:Int) ≥ m)) zE (by simpa using h) ?_
   refine g_leq (k:=.i16) (m:=ver) (n:=m') zA rfl ?_
   refine g_pick (b:=decide ((ver:Int) ≥ m)) (v:=.bool (decide ((ver:Int)<=m'))) zE (by rw[if_pos (by simpa using h)];exact zE) ?_
   refine g_dn ?_
   refine vS (vC (t:=decide ((ver:Int)<=m')) zE ?_ ?_)
   ·intro h'
    have hd:(Ver.btw m m').has ver=true:=by simp only[Ver.has,Bool.and_eq_true,decide_eq_true_eq] at h' ⊢;omega
    refine qW _ (hyes hd _ ((((hfr.put _ (ht _ zH)).put _ (ht _ zH)).put _ (ht _ zH)).put _ (ht _ zH)) ?_) (fun e a w h=>by cases e<;>first | exact vN h | exact h)
    intro k hk
    exact zE
   ·intro h'
    have hd:(Ver.btw m m').has ver=false:=by simp only[Ver.has,Bool.and_eq_false_iff,decide_eq_false_iff_not] at h' ⊢;omega
    refine vK (vN (hno hd _ ((((hfr.put _ (ht _ zH)).put _ (ht _ zH)).put _ (ht _ zH)).put _ (ht _ zH)) ?_))
    intro k hk
    exact zE
  ·refine g_skip (b:=decide ((ver:Int) ≥ m)) zE (by simpa using h) ?_
   refine g_skip (b:=decide ((ver:Int) ≥ m)) zE (by simpa using h) ?_
   refine g_pick (b:=decide ((ver:Int) ≥ m)) (v:=.bool false) zE (by rw[if_neg (by simpa using h)];rfl) ?_
   refine g_dn ?_
   refine vS (vC (t:=false) zE (fun h=>by cases h) ?_)
   intro _
   have hd:(Ver.btw m m').has ver=false:=by simp only[Ver.has,Bool.and_eq_false_iff,decide_eq_false_iff_not];omega
   refine vK (vN (hno hd _ ((((hfr.put _ (ht _ zH)).put _ (ht _ zH)).put _ (ht _ zH)).put _ (ht _ zH)) ?_))
   intro k hk
   exact zE
theorem m_ifLss {E:Env} {x:Cx} {N t ver:Nat} {A B:Code} (hv:a.eval (.tmp x.vs)=.int .i16 (ver:Int)) (hvs:x.vs<t) (ht:∀ d,t<=d->¬ K d) (hsz:t+2<=a.tmps.size)
  (hA:ver<N->∀ a',Fr K a a'->(∀ k,k<t->a'.eval (.tmp k)=a.eval (.tmp k))->vc P A Q a' w)
  (hB:¬ ver<N->∀ a',Fr K a a'->(∀ k,k<t->a'.eval (.tmp k)=a.eval (.tmp k))->vc P B Q a' w):vc P (ifLss E x N t A B) Q a w:=by
 unfold ifLss
 refine vX (rM ?_)
 refine qV (k:=.i16) (m:=ver) (n:=N) zA rfl ?_
 refine dn ?_
 refine vS (vC (t:=decide ((ver:Int)<N)) zE ?_ ?_)
 ·intro h
  have hd:ver<N:=by simp only[decide_eq_true_eq] at h;omega
  exact qW _ (hA hd _ (((Fr.refl K a).put _ (ht _ zH)).put _ (ht _ zH)) (fun k hk=>by rw[qi _ _ _ _ zH,qi _ _ _ _ zH])) (fun e a w h=>by cases e<;>first | exact vN h | exact h)
 ·intro h
  have hd:¬ ver<N:=by simp only[decide_eq_false_iff_not] at h;omega
  exact qW _ (hB hd _ (((Fr.refl K a).put _ (ht _ zH)).put _ (ht _ zH)) (fun k hk=>by rw[qi _ _ _ _ zH,qi _ _ _ _ zH])) (fun e a w h=>by cases e<;>first | exact vN h | exact h)
end
end Go.Km
namespace Go.Km
open Go Go.RowKit
def xe (P:Program) (t e:TypeId) (s:Nat):Bool :=
 match P.underlying t,P.info? e with
 | some (.slice e'),some i=>e'==e&&i.size==s&&decide (0<s)&&(match i.zero with | some z=>z.cells.size==s | none=>false)&&decide (i.bytes<=65536)
 | _,_=>false
theorem xQ {P:Program} {t e:TypeId} {s:Nat} (h:xe P t e s=true) :
  P.underlying t=some (.slice e)/\∃ i z,P.info? e=some i/\i.size=s/\0<s/\i.zero=some z/\z.cells.size=s/\i.bytes<=65536:=by
 unfold xe at h
 split at h
 ·rename_i e' i hu hi
  cases hz:i.zero with
  | none=>simp[hz] at h
  | some z =>
   simp only[hz,Bool.and_eq_true,beq_iff_eq,decide_eq_true_eq] at h
   obtain ⟨⟨⟨⟨h1,h2⟩,h3⟩,h4⟩,h5⟩:=h
   subst h1
   exact ⟨hu,i,z,hi,h2,h3,hz,h4,h5⟩
 ·cases h
theorem rB {P:Program} {t e:TypeId} {s:Nat} (h:xe P t e s=true):xu P t=some (e,s):=by
 obtain ⟨hu,i,z,hi,hs,_⟩:=xQ h
 simp[xu,hu,hi,hs]
theorem jl {P:Program} (w:World) (base:Nat) (t tx ty e:TypeId) (s:Nat) (hB:xe P t e s=true)
  (v:Value) (n:Nat) (xs:List Value) (hown:w.ownsRow base e s v n xs) (x:Value) (m:Nat) (news:List Value) (hs:Src P s tx x m news w) (hb:n+m<=big) (hbase:base<=w.heap.size) :
  ∃ v' w',(Builtin.append_ #[t,tx] ty #[v,x]).run P w=.ok v' w'/\w'.ownsRow base e s v' (n+m) (xs++news)/\w.grownBy w' v.ownBlock/\(∀ g,v'.ownBlock=some g->v.ownBlock=some g\/w.heap.size<=g):=by
 obtain ⟨ht,i,z,hi,hsize,hsz,hz,hzs,hby⟩:=xQ hB
 subst hsize
 have hl:=hs.newsLen
 have hsmall:n+m<=9223372036854775807:=by unfold big at hb;omega
 have h63:n+m<=maxLen:=by unfold big at hb;simp only[maxLen];omega
 have hbytes:(n+m)*i.bytes<=140737488355328:=by
  refine Nat.le_trans (Nat.mul_le_mul hb hby) ?_
  unfold big
  omega
 have hlen:(xs++news).length=(n+m)*i.size:=by rw[List.length_append,hown.1,hl,Nat.add_mul]
 have grown:∀ (old:Nat),old<n+m->∀ (row:Option Nat),
   (w.drew.alloc (.cells ((xs++news).toArray++Builtin.zeroCells z.cells (grownCap w (n+m) old e-(n+m))) e)).ownsRow base e i.size
    (.slice (some ⟨w.heap.size,0,none⟩) (n+m) (grownCap w (n+m) old e)) (n+m) (xs++news) ∧
   w.grownBy (w.drew.alloc (.cells ((xs++news).toArray++Builtin.zeroCells z.cells (grownCap w (n+m) old e-(n+m))) e)) row:=by
  intro old ho row
  have hge:=grownCap_ge w (n+m) old e
  have hcm:grownCap w (n+m) old e<=maxLen:=grownCap_le_maxLen w (n+m) old e h63
  refine ⟨⟨hlen,.inr ⟨w.heap.size,_,_,rfl,hbase,heap_alloc_new w.drew _,hge,hcm,?_,?_⟩⟩,⟨rfl,rfl,rfl,by simp,fun k hk _=>heap_alloc_old w.drew _ k hk⟩⟩
  ·have hmul:(n+m)*i.size+(grownCap w (n+m) old e-(n+m))*i.size=grownCap w (n+m) old e*i.size:=by
    rw[← Nat.add_mul]
    congr 1
    omega
   rw[Array.size_append,List.size_toArray,size_zeroCells,hzs,hlen]
   exact hmul
  ·rw[Array.toList_append,← hlen]
   exact List.take_left
 rcases hown.2 with ⟨rfl,rfl⟩ | ⟨g,cap,cur,rfl,hbg,hg,hnc,hcm,hcs,htake⟩
 ·have hx:xs=[]:=List.eq_nil_of_length_eq_zero (by simpa using hown.1)
  subst hx
  by_cases hm:m=0
  ·subst hm
   have hn:news=[]:=List.eq_nil_of_length_eq_zero (by simpa using hl)
   subst hn
   refine ⟨.slice none 0 0,w,?_,World.ownsRow_nil w base e i.size,⟨rfl,rfl,rfl,Nat.le_refl _,fun _ _ _=>rfl⟩,fun g h=>by cases h⟩
   rcases hs.kind with ⟨e',hk⟩ | hk<;>simp[Builtin.append_,run_underlying ht,run_underlying hk,sizeOf,typeInfo,hi,hs.len,hs.cells,storeCells]
  ·have hr:=run_append_grow_src (P:=P) w t tx ty e i z ht hi hz none 0 0 [] (by simp[Builtin.firstCells]) x m news hs zH zH (growslice_fits zH (by simpa using hbytes))
   have hgr:=grown 0 zH (Value.ownBlock (.slice none 0 0))
   simp only[Nat.zero_add,List.nil_append] at hgr hr ⊢
   exact ⟨_,_,hr,hgr.1,hgr.2,fun g' h=>.inr (by simp only[Value.ownBlock,Option.some.injEq] at h;omega)⟩
 ·by_cases hroom:n+m<=cap
  ·have hfit:n*i.size+news.length<=cur.size:=by rw[hl,hcs,← Nat.add_mul];exact Nat.mul_le_mul_right _ hroom
   have hc:∀ j,j<news.length->(w.cell? ⟨g,0+n*i.size+j,none⟩).isSome=true:=by
    intro j hj
    have:0+n*i.size+j<cur.size:=by omega
    simp[World.cell?,hg]
    omega
   have hf:∀ j,j<news.length->w.frozen? ⟨g,0+n*i.size+j,none⟩=false:=by
    intro j hj
    simp[World.frozen?,hg]
   have hr:=run_append_room_src (P:=P) w t tx ty e i ht hi g 0 n cap x m news hs hroom hc hf
   have e1:=run_storeCells_cells (P:=P) g (0+n*i.size) news 0 w (by simpa using hc) (by simpa using hf) hs.one
   have e2:=run_storeCells_at P g (0+n*i.size) e news 0 cur w hg (by simpa using hfit) hs.one
   have e3:=e1.symm.trans e2
   simp only[Nat.add_zero] at e3
   injection e3 with _ e3
   rw[e3] at hr
   refine ⟨_,_,hr,⟨hlen,.inr ⟨g,cap,_,rfl,hbg,setRow_heap w g cur _ e _ hg,hroom,hcm,?_,?_⟩⟩,⟨rfl,rfl,rfl,by simp,fun k _ hk=>setRow_other w g k _ (fun e=>hk (by simp[Value.ownBlock,e]))⟩,fun g' h=>.inl h⟩
   ·simp only[List.size_toArray,List.length_append,List.length_take,List.length_drop,Array.length_toList]
    omega
   ·simp only[Nat.zero_add]
    rw[htake,← hlen]
    exact List.take_left
  ·have holds:∀ j u,xs[j]? = some u->w.cell? ((⟨g,0,none⟩:Addr).add j)=some u:=hown.cells (g:=g) rfl
   have hr:=run_append_grow_src (P:=P) w t tx ty e i z ht hi hz (some ⟨g,0,none⟩) n cap xs (run_firstCells_some w.drew i.size n _ n cap xs hown.1 (by simpa using holds)) x m news hs zH zH (growslice_fits zH hbytes)
   have hgr:=grown cap zH (Value.ownBlock (.slice (some ⟨g,0,none⟩) n cap))
   exact ⟨_,_,hr,hgr.1,hgr.2,fun g' h=>.inr (by simp only[Value.ownBlock,Option.some.injEq] at h;omega)⟩
theorem jH {w w':World} {base:Nat} {e:TypeId} {s:Nat} {v:Value} {n:Nat} {xs:List Value} (hown:w.ownsRow base e s v n xs) (hg:w.grownBy w' v.ownBlock) (hU:base<=w.heap.size):Below base w w' :=
 ⟨hg.os,hg.tape,hg.output,hg.size,fun k hk=>hg.block k zH (fun he=>by have:=hown.lt k he.symm;omega)⟩
theorem xW {P:Program} {t e:TypeId} {s:Nat} {w:World} {q o n cap:Nat} {cs:List Value} (ht:xu P t=some (e,s)) (hc:qb w q o cs) (hl:cs.length=n*s) (h1:∀ u ∈ cs,u.oneCell'=true) :
  Src P s t (.slice (some ⟨q,o,none⟩) n cap) n cs w :=
 Src.ofSlice w (zW ht).1 _ n cap cs hl (fun j u hu=>by rw[Addr.add_lit];exact hc j u hu) h1
theorem xm (l:List UInt8):∀ u ∈ l.map bv,u.oneCell'=true:=by
 intro u hu
 obtain ⟨b,_,rfl⟩:=List.mem_map.1 hu
 rfl
theorem wH {P:Program} {t e:TypeId} {s c:Nat} {w:World} (ht:xu P t=some (e,s)):Src P s t (.slice none 0 c) 0 [] w:=Src.ofNil w (zW ht).1 c
theorem byteCells_bv (l:List UInt8):byteCells ⟨l.toArray⟩=l.map bv:=by
 simp[byteCells,bv]
theorem wG {P:Program} {t:TypeId} {w:World} (ht:P.underlying t=some .string) (l:List UInt8):Src P 1 t (.string ⟨l.toArray⟩) l.length (l.map bv) w:=by
 have:=Src.ofString (P:=P) w ht ⟨l.toArray⟩
 rw[byteCells_bv] at this
 exact this
theorem xJ {P:Program} {t e:TypeId} {s:Nat} {w:World} {U n:Nat} {v:Value} {xs:List Value} (ht:xu P t=some (e,s)) (h:w.ownsRow U e s v n xs) (h1:∀ u ∈ xs,u.oneCell'=true):Src P s t v n xs w:=by
 rcases h.2 with ⟨rfl,rfl⟩ | ⟨g,cap,cur,rfl,hbg,hg,hnc,hcm,hcs,htake⟩
 ·have:xs=[]:=List.eq_nil_of_length_eq_zero (by simpa using h.1)
  subst this
  exact wH ht
 ·refine xW ht ?_ h.1 h1
  intro j u hu
  have:=h.cells (g:=g) rfl j u hu
  rwa [Addr.add_lit] at this
structure Gd where
 u:Nat
 g:Nat->Option Obj
instance:Coe Gd Nat:=⟨Gd.u⟩
def Gd.none:Nat->Option Obj:=fun _=>Option.none
def KeptG (w:World) (g:Nat->Option Obj) (e:TypeId):Prop:=∀ b o,g b=some o->w.heap[b]? = some o/\∀ cur,o≠.cells cur e (0,0)
theorem KeptG.none (w:World) (e:TypeId):KeptG w Gd.none e:=fun b o h=>by cases h
structure _root_.Go.World.ownsG (w:World) (U:Gd) (e:TypeId) (s:Nat) (v:Value) (n:Nat) (xs:List Value):Prop where
 own:w.ownsRow U.u e s v n xs
 kept:KeptG w U.g e
theorem _root_.Go.World.ownsG.stay {w w':World} {U:Gd} {e:TypeId} {s:Nat} {v:Value} {n:Nat} {xs:List Value} (h:w.ownsG U e s v n xs) (hg:w.grownBy w' v.ownBlock):KeptG w' U.g e:=by
 intro b o hb
 obtain ⟨h1,h2⟩:=h.kept b o hb
 refine ⟨?_,h2⟩
 rw[hg.block b (Array.getElem?_eq_some_iff.1 h1).1 (fun e1=>?_)]
 ·exact h1
 ·rcases h.own.2 with ⟨rfl,_⟩ | ⟨g,cap,cur,rfl,_,h3,_⟩
  ·cases e1
  ·simp only[Value.ownBlock,Option.some.injEq] at e1
   subst e1
   rw[h1] at h3
   exact h2 cur (Option.some.inj h3)
theorem _root_.Go.World.ownsG.alloc {w:World} {U:Gd} {e:TypeId} {s:Nat} {v:Value} {n:Nat} {xs:List Value} (h:w.ownsG U e s v n xs) (o:Obj):(w.alloc o).ownsG U e s v n xs :=
 ⟨h.own.alloc o,fun b o' hb=>⟨by rw[heap_alloc_old w o b (Array.getElem?_eq_some_iff.1 (h.kept b o' hb).1).1];exact (h.kept b o' hb).1,(h.kept b o' hb).2⟩⟩
theorem _root_.Go.World.ownsRow.toG {w:World} {u:Nat} {e:TypeId} {s:Nat} {v:Value} {n:Nat} {xs:List Value} (h:w.ownsRow u e s v n xs):w.ownsG ⟨u,Gd.none⟩ e s v n xs:=⟨h,KeptG.none _ _⟩
section
variable {P : Program} {a : Act} {w : World} {r : List Oper} {Q : Exit → Act → World → Prop}
theorem xc {d s x t tx ty p af g e sz U v n xs u m news} (hB:xe P t e sz=true) (hs:a.eval s=v) (hx:a.eval x=u) (hown:w.ownsRow U e sz v n xs) (hU:U<=w.heap.size) (hsrc:Src P sz tx u m news w) (hb:n+m<=big)
  (h:∀ v' w',w'.ownsRow U e sz v' (n+m) (xs++news)->Below U w w'->rO_ P Q r (a.put (some d) v') w') :
  rO_ P Q (⟨some d,.call { callee:=.builtin .append,args:=#[s,x],argTypes:=#[t,tx] },ty,p,af,g⟩::r) a w:=by
 refine st ?_
 obtain ⟨v',w',hr,h1,h2,_⟩:=jl w U t tx ty e sz hB v n xs hown u m news hsrc hb hU
 subst hs;subst hx
 simp only[Oper.wp,execOp,resolve,invoke,builtin,Sem.run_bind,Sem.run_pure,Result.andThen_ok,List.map_toArray,List.map_cons,List.map_nil,hr,Oper.upon_value]
 exact h v' w' h1 (jH hown h2 hU)
theorem jz {d s x t tx ty p af g e sz v n xs u m news} {U:Gd} (hB:xe P t e sz=true) (hs:a.eval s=v) (hx:a.eval x=u) (hown:w.ownsG U e sz v n xs) (hU:U.u<=w.heap.size) (hsrc:Src P sz tx u m news w) (hb:n+m<=big)
  (h:∀ v' w',w'.ownsG U e sz v' (n+m) (xs++news)->Below U.u w w'->rO_ P Q r (a.put (some d) v') w') :
  rO_ P Q (⟨some d,.call { callee:=.builtin .append,args:=#[s,x],argTypes:=#[t,tx] },ty,p,af,g⟩::r) a w:=by
 refine st ?_
 obtain ⟨v',w',hr,h1,h2,_⟩:=jl w U.u t tx ty e sz hB v n xs hown.own u m news hsrc hb hU
 subst hs;subst hx
 simp only[Oper.wp,execOp,resolve,invoke,builtin,Sem.run_bind,Sem.run_pure,Result.andThen_ok,List.map_toArray,List.map_cons,List.map_nil,hr,Oper.upon_value]
 exact h v' w' ⟨h1,hown.stay h2⟩ (jH hown.own h2 hU)
theorem qZ {d c x y ty p af g} (hc:a.eval c=.bool true) (h:rO_ P Q r (a.put (some d) (a.eval x)) w):rO_ P Q (⟨some d,.pick c x y,ty,p,af,g⟩::r) a w:=by
 refine st ?_
 simp only[Oper.wp,execOp,hc,asBool,Sem.run_bind,Sem.run_pure,Result.andThen_ok,Oper.upon_value,if_true]
 exact h
theorem xx {d c x y ty p af g} (hc:a.eval c=.bool false) (h:rO_ P Q r (a.put (some d) (a.eval y)) w):rO_ P Q (⟨some d,.pick c x y,ty,p,af,g⟩::r) a w:=by
 refine st ?_
 simp only[Oper.wp,execOp,hc,asBool,Sem.run_bind,Sem.run_pure,Result.andThen_ok,Oper.upon_value,Bool.false_eq_true,if_false]
 exact h
theorem run_newRow' (e:TypeId) (c:Array Value) (w:World):(newRow e c).run P w=.ok ⟨w.heap.size,0,none⟩ (w.alloc (.cells c e)):=by
 simp[newRow]
theorem xz {d t n ps ty p af g e s} {vs:List Value} (hB:xe P t e s=true) (hp:(ps.map fun (x:Nat × Operand)=>(x.1,a.eval x.2)).toList=(vs.zipIdx 0).map fun x=>(x.2,x.1)) (hn:vs.length=n) (hs:∀ v ∈ vs,v.cells.size=s) (hlim:n*s<=16777216) (hn0:0<n)
  (h:rO_ P Q r (a.put (some d) (.slice (some ⟨w.heap.size,0,none⟩) n n)) (w.alloc (.cells (vs.flatMap fun v=>v.cells.toList).toArray e))) :
  rO_ P Q (⟨some d,.buildSlice t n ps,ty,p,af,g⟩::r) a w:=by
 refine st ?_
 obtain ⟨hu,i,z,hi,hsz,hs0,hz,hzs,_⟩:=xQ hB
 have hn':n*s≠0:=Nat.ne_of_gt (Nat.mul_pos hn0 hs0)
 have hf:=Great.fill_whole hs0 vs ((Array.range (n*s)).map (z.cells[· % z.cells.size]!)) hs (by simp[hn])
 have hz':(zeroValue e).run P w=.ok z w:=by simp[zeroValue,typeInfo,hi,hz]
 have hr:(Instr.buildSlice t n (ps.map fun (i,x)=>(i,a.eval x))).run P w=.ok (.slice (some ⟨w.heap.size,0,none⟩) n n) (w.alloc (.cells (vs.flatMap fun v=>v.cells.toList).toArray e)):=by
  have hp':(ps.map fun (i,x)=>(i,a.eval x)).toList=(vs.zipIdx 0).map fun x=>(x.2,x.1):=hp
  have hlim':¬ (n*s>2 ^ 24):=by simp only[Nat.reducePow];omega
  simp only[Instr.buildSlice,Sem.run_bind,run_underlying hu,Result.andThen_ok,jc (rB hB),if_neg hlim',if_neg hn',hz',Sem.run_pure,hp',hf,run_newRow']
 simp only[Oper.wp,execOp,Sem.run_bind,hr,Sem.run_pure,Result.andThen_ok,Oper.upon_value]
 exact h
end
def jP (ops:List Oper) (a:Act) (o:Oper):Bool:=Region.wanted o (yielded ops.toArray a.tmps)
def qJ (P:Program) (ops:List Oper) (Q:Exit->Act->World->Prop):List Nat->Act->World->Prop
 | [],a,w=>Q .normal a w
 | i::r,a,w=>∃ o,ops[i]? = some o/\(if jP ops a o=true then o.wp P a w (qJ P ops Q r) Q else qJ P ops Q r (a.put o.dst undef) w)
section
variable {P : Program} {a : Act} {w : World} {Q : Exit → Act → World → Prop} {ops : List Oper} {r : List Nat}
theorem xF {id:Nat} (h:qJ P ops Q (List.range ops.length) a w):vc P (.region id ops.toArray false) Q a w:=by
 refine vc_ops ?_
 have key:∀ (l:List Nat) (a:Act) (w:World),qJ P ops Q l a w->wpOps P ops.toArray Q l a w:=by
  intro l
  induction l with
  | nil=>exact fun a w h=>h
  | cons i r ih =>
   rintro a w ⟨o,ho,h⟩
   have ho':ops.toArray[i]? = some o:=by simpa using ho
   simp only[wpOps,ho']
   by_cases hw:jP ops a o=true
   ·rw[if_pos hw] at h
    have hw':Region.wanted o (yielded ops.toArray a.tmps)=true:=hw
    rw[if_pos hw']
    exact .inl (Oper.wp_mono (fun a w=>ih a w) h)
   ·rw[if_neg hw] at h
    have hw':¬ Region.wanted o (yielded ops.toArray a.tmps)=true:=hw
    rw[if_neg hw']
    exact ih _ _ h
 have:=key _ a w h
 simpa using this
theorem qy (h:Q .normal a w):qJ P ops Q [] a w:=h
theorem rD {i:Nat} {o:Oper} (ho:ops[i]? = some o) (hw:jP ops a o=true) (h:rO_ P (Exit.then (qJ P ops Q r) Q) [o] a w):qJ P ops Q (i::r) a w:=by
 refine ⟨o,ho,?_⟩
 rw[if_pos hw]
 have h':o.wp P a w (qJ P ops Q r) (Exit.then (qJ P ops Q r) Q):=h
 unfold Oper.wp at h' ⊢
 revert h'
 generalize (execOp a.eval o).run P w=res
 intro h
 unfold Oper.upon at h ⊢
 split at h<;>first
  | exact h
  | (exact Calls.mono h (fun e w' hh=>by cases e<;>exact hh))
  | (exact Rows.mono h (fun _ _ hh=>hh))
theorem rT (h:qJ P ops Q r a w):Exit.then (qJ P ops Q r) Q .normal a w:=h
theorem qX {i:Nat} {o:Oper} (ho:ops[i]? = some o) (hw:jP ops a o=false) (h:qJ P ops Q r (a.put o.dst undef) w):qJ P ops Q (i::r) a w:=by
 refine ⟨o,ho,?_⟩
 rw[if_neg (by rw[hw];exact Bool.false_ne_true)]
 exact h
theorem wN {o:Oper} (h:o.guard=none):jP ops a o=true:=by simp[jP,Region.wanted,h]
theorem wS {o:Oper} {j:Nat} {dj:Tmp} {want b:Bool} (h:o.guard=some (j,want)) (hj:(ops[j]?).bind (·.dst)=some dj) (hb:a.eval (.tmp dj)=.bool b):jP ops a o=(b==want):=by
 unfold jP Region.wanted
 rw[h]
 have hy:yielded ops.toArray a.tmps j=some b:=by
  cases hoj:ops[j]? with
  | none=>simp[hoj] at hj
  | some oj=>exact yielded_of (by simpa using hoj) (by simpa [hoj] using hj) hb
 simp[hy]
theorem yC {o:Oper} {j:Nat} {dj:Tmp} {want:Bool} (h:o.guard=some (j,want)) (hj:(ops[j]?).bind (·.dst)=some dj) (hb:a.eval (.tmp dj)=undef) (hd:dj<a.tmps.size):jP ops a o=false:=by
 unfold jP Region.wanted
 rw[h]
 have hy:yielded ops.toArray a.tmps j=none:=by
  unfold yielded
  simp only[List.getElem?_toArray,hj,Option.bind_some]
  simp only[Act.eval,Array.getD_eq_getD_getElem?] at hb
  rw[Array.getElem?_eq_getElem hd] at hb ⊢
  simp only[Option.getD_some] at hb
  simp[hb,undef]
 simp[hy]
end
def isPure:Op->Bool
 | .move _ | .assign _ | .load _ _ | .fieldAddr _ _ _ | .indexAddr _ _ _ | .binOp _ _ _ _ _ | .unOp _ _ _ | .convert _ _ _ | .pick _ _ _ | .slice _ _ _ _ _=>true
 | .call c=>match c.callee with | .builtin .len=>true | .builtin .min=>true | .builtin .max=>true | _=>false
 | _=>false
def qF (P:Program) (ops:List Oper) (Q:Exit->Act->World->Prop) (S:World->Prop):List (Nat × Bool)->Act->World->Prop
 | [],a,w=>Q .normal a w
 | (i,true)::r,a,w=>∃ o v,ops[i]? = some o/\YieldsIf P ops.toArray S o v a/\S w/\qF P ops Q S r (a.put o.dst v) w
 | (i,false)::r,a,w=>wpOp P ops.toArray Q i (fun a' w'=>S w'/\qF P ops Q S r a' w') a w
def ordB (ops:Array Oper):List (Nat × Bool)->Array Bool->Bool
 | [],listed=>(Region.ready .any ops listed).isEmpty
 | (i,true)::r,listed=>(Region.ready .any ops listed).contains i&&Region.free .any ops listed i&&ordB ops r (listed.setIfInBounds i true)
 | (i,false)::r,listed=>decide (Region.ready .any ops listed=[i])&&ordB ops r (listed.setIfInBounds i true)
section
variable {P : Program} {a : Act} {w : World} {Q : Exit → Act → World → Prop} {ops : List Oper} {S : World → Prop}
theorem jZ (hs:Region.noSelect ops.toArray=true) (hQ:∀ c a a' w,Q (.panic c) a w->Q (.panic c) a' w):∀ (ord:List (Nat × Bool)) (listed:Array Bool) (a:Act) (w:World),ordB ops.toArray ord listed=true →
  qF P ops Q S ord a w->wpAnyH P .any ops.toArray Q S ord.length listed a w
 | [],listed,a,w,hB,h=>by
  simp only[ordB,List.isEmpty_iff] at hB
  exact ⟨hB,h⟩
 | (i,true)::r,listed,a,w,hB,⟨o,v,ho,hy,hS,h⟩=>by
  simp only[ordB,Bool.and_eq_true] at hB
  have ho':ops.toArray[i]? = some o:=by simpa using ho
  exact wpAnyH_take ho' hs hB.1.2 hB.1.1 (fun c a w h=>hQ c _ _ w h) hy hS (jZ hs hQ r _ _ w hB.2 h)
 | (i,false)::r,listed,a,w,hB,h=>by
  simp only[ordB,Bool.and_eq_true,decide_eq_true_eq] at hB
  refine wpAnyH_all (rs:=[i]) hB.1 zS ?_
  intro j hj
  simp only[List.mem_singleton] at hj
  subst hj
  exact wpOp_mono (fun a' w' h'=>⟨h'.1,jZ hs hQ r _ a' w' hB.2 h'.2⟩) h
theorem vc_runD (ord:List (Nat × Bool)) (S:World->Prop) {id:Nat} (hm:P.follows .mixedOrders=true) (hs:Region.noSelect ops.toArray=true) (hl:ord.length=ops.length) (hB:ordB ops.toArray ord (Array.replicate ops.length false)=true)
  (hQ:∀ c a a' w,Q (.panic c) a w->Q (.panic c) a' w) (h:qF P ops Q S ord a { w with drawn:=w.drawn+1 }):vc P (.region id ops.toArray true) Q a w:=by
 refine vc_draw (fun t=>?_)
 simp only[Region.schedule,hm,Bool.true_or,if_true]
 refine wpAny_sound ops.toArray.size t _ a _ (wpAny_of_held (S:=S) _ _ _ _ ?_)
 have:=jZ hs hQ ord _ a _ hB h
 rw[hl] at this
 simpa using this
theorem xC (h:Q .normal a w):qF P ops Q S [] a w:=h
def yq (a:Act) (d:Option Tmp) (v:Value) (w:World):Exit->Act->World->Prop:=fun e a' w'=>e=.normal/\a'=a.put d v/\w'=w
theorem v_value {x:Sem Value} {w w':World} {n:Next} (h:(do let y ← x;pure (Next.value y):Sem Next).run P w=.ok n w'):∃ v,n=.value v:=by
 rw[Sem.run_bind] at h
 cases hx:x.run P w with
 | ok y w1 =>
  rw[hx,Result.andThen_ok,Sem.run_pure] at h
  injection h with h1 _
  exact ⟨_,h1.symm⟩
 | halt s w1 =>
  rw[hx] at h
  cases h
theorem pure_value {ρ : Operand → Value} {o : Oper} (hp : isPure o.op = true) {w w' : World} {n : Next} (h : (execOp ρ o).run P w = .ok n w') : ∃ v, n = .value v := by
  unfold isPure at hp
  unfold execOp at h
  split at hp <;> first | exact absurd hp Bool.false_ne_true | (rename_i heq; rw [heq] at h)
  all_goals first
    | exact v_value h
    | (rw [Sem.run_pure] at h; injection h with h1 _; exact ⟨_, h1.symm⟩)
    | (simp only [Sem.run_bind] at h
       revert h
       generalize Sem.run P (asBool _) w = res
       intro h
       cases res with
       | ok y w1 => rw [Result.andThen_ok, Sem.run_pure] at h; injection h with h1 _; exact ⟨_, h1.symm⟩
       | halt s w1 => cases h)
    | skip
  rename_i c
  split at hp <;> first | exact absurd hp Bool.false_ne_true | skip
  all_goals
    rename_i hc
    simp only [resolve, hc, Sem.run_bind, Sem.run_pure, Result.andThen_ok, invoke, builtin] at h
    refine v_value (x := ?_) (by rw [Sem.run_bind]; simp only [Sem.run_pure]; exact h)
theorem yields_run {o:Oper} {d:Nat} {v:Value} (hp:isPure o.op=true) (hd:o.dst=some d) (hsz:d<a.tmps.size) (h:rO_ P (yq a (some d) v w) [o] a w):(execOp a.eval o).run P w=.ok (.value v) w:=by
 have h':o.wp P a w (yq a (some d) v w .normal) (yq a (some d) v w):=h
 unfold Oper.wp at h'
 cases hr:(execOp a.eval o).run P w with
 | ok n w' =>
  obtain ⟨u,rfl⟩:=pure_value hp hr
  rw[hr] at h'
  simp only[Oper.upon,hd] at h'
  obtain ⟨_,h1,h2⟩:=h'
  subst h2
  have h3:(a.put (some d) u).eval (.tmp d)=(a.put (some d) v).eval (.tmp d):=by rw[h1]
  rw[qD _ _ _ hsz,qD _ _ _ hsz] at h3
  rw[h3]
 | halt x w' =>
  rw[hr] at h'
  cases x<;>simp[Oper.upon,yq] at h'
theorem dP {i d:Nat} {o:Oper} {v:Value} {r:List (Nat × Bool)} (ho:ops[i]? = some o) (hp:isPure o.op=true) (hd:o.dst=some d) (hw:jP ops a o=true) (hsz:d<a.tmps.size) (hS:S w)
  (h:∀ w',S w'->rO_ P (yq a (some d) v w') [o] a w') (k:qF P ops Q S r (a.put (some d) v) w):qF P ops Q S ((i,true)::r) a w :=
 ⟨o,v,ho,.inl ⟨hw,fun w' hS'=>yields_run hp hd hsz (h w' hS')⟩,hS,by rw[hd];exact k⟩
theorem d_no {i d:Nat} {o:Oper} {r:List (Nat × Bool)} (ho:ops[i]? = some o) (hd:o.dst=some d) (hw:jP ops a o=false) (hS:S w) (k:qF P ops Q S r (a.put (some d) undef) w):qF P ops Q S ((i,true)::r) a w :=
 ⟨o,undef,ho,.inr ⟨hw,rfl⟩,hS,by rw[hd];exact k⟩
theorem qx {i:Nat} {o:Oper} {r:List (Nat × Bool)} (ho:ops[i]? = some o) (hw:jP ops a o=true) (h:rO_ P (Exit.then (fun a w=>S w/\qF P ops Q S r a w) Q) [o] a w):qF P ops Q S ((i,false)::r) a w:=by
 have ho':ops.toArray[i]? = some o:=by simpa using ho
 show wpOp P ops.toArray Q i _ a w
 unfold wpOp
 have hw':Region.wanted o (yielded ops.toArray a.tmps)=true:=hw
 simp only[ho',hw',if_true]
 left
 have h':o.wp P a w (fun a w=>S w/\qF P ops Q S r a w) (Exit.then (fun a w=>S w/\qF P ops Q S r a w) Q):=h
 unfold Oper.wp at h' ⊢
 revert h'
 generalize (execOp a.eval o).run P w=res
 intro h
 unfold Oper.upon at h ⊢
 split at h<;>first
  | exact h
  | (exact Calls.mono h (fun e w' hh=>by cases e<;>exact hh))
  | (exact Rows.mono h (fun _ _ hh=>hh))
theorem qw {r:List (Nat × Bool)} (hS:S w) (h:qF P ops Q S r a w):Exit.then (fun a w=>S w/\qF P ops Q S r a w) Q .normal a w:=⟨hS,h⟩
end
end Go.Km
namespace Go.Km
open Go Go.RowKit
attribute [local irreducible] vc rO_ qz
theorem wrap_i64 {n:Int} (h0:-9223372036854775808<=n) (h1:n<=9223372036854775807):IntKind.i64.wrap n=n:=IntWalk.i64_in n ⟨h0,h1⟩
section
variable {P : Program} {Q : Exit → Act → World → Prop} {a : Act} {w : World}
set_option maxHeartbeats 1000000 in
theorem m_wloop {E:Env} {T e:TypeId} {s x t b post len cap:Nat} {ad:Option Addr} {body:Code} (hx:a.eval (.tmp x)=.slice ad len cap) (hT:xu P T=some (e,s)) (hlen:len<=9223372036854775806)
  (hxt:x<t) (hpost:t+4<=post) (hsz:post<a.tmps.size) (I:Nat->Act->World->Prop)
  (stab:∀ i a a' w,I i a w->a'.tmps.size=a.tmps.size->a'.defers=a.defers->(∀ k,k<t->a'.eval (.tmp k)=a.eval (.tmp k))->I i a' w)
  (h0:I 0 a w)
  (step:∀ i a' w',i<len->I i a' w'->a'.eval (.tmp (t+2))=.int .i64 (i:Int)->a'.tmps.size=a.tmps.size->a'.eval (.tmp t)=.slice ad len cap →
   vc P body (fun | .normal=>fun a2 w2=>I (i+1) a2 w2/\a2.eval (.tmp (t+2))=a'.eval (.tmp (t+2))/\a2.eval (.tmp (t+1))=a'.eval (.tmp (t+1))/\a2.tmps.size=a'.tmps.size/\a2.eval (.tmp t)=a'.eval (.tmp t) | _=>fun _ _=>False) a' w')
  (done:∀ a' w',I len a' w'->Q .normal a' w'):vc P (wLoop E T x t b post body) Q a w:=by
 unfold wLoop
 refine vX (rM ?_)
 refine x7 (ad:=ad) (n:=len) (c:=cap) hT zA ?_
 refine rM (dn ?_)
 refine vS (qh ?_)
 refine zI (fun a' w'=>∃ i,i<=len/\I i a' w'/\a'.eval (.tmp (t+2))=.int .i64 (i:Int)/\a'.eval (.tmp (t+1))=.int .i64 (len:Int)/\a'.tmps.size=a.tmps.size/\a'.eval (.tmp t)=.slice ad len cap)
  (fun a' _=>len-(intOf (a'.eval (.tmp (t+2)))).toNat) ?_ ?_
 ·refine ⟨0,Nat.zero_le _,stab 0 a _ w h0 (by simp only[zP]) (by simp only[dF]) (fun k hk=>by exact zE),?_,?_,by simp only[zP],zA⟩
  ·simp (disch:=(first | omega | (simp only[zP];omega))) only[qD];rfl
  ·exact zE
 rintro a1 w1 ⟨i,hi,hI,h2,h1,hs1,ht0⟩
 refine vX ?_
 refine qV (k:=.i64) (m:=i) (n:=len) h2 h1 ?_
 refine dn ?_
 refine vS (vC (t:=decide ((i:Int)<len)) zE ?_ ?_)
 ·intro hlt
  have hlt':i<len:=by simpa using hlt
  refine vK ?_
  refine vS (qh ?_)
  have hI':I i (a1.put (some (t+3)) (.bool (decide ((i:Int)<len)))) w1:=stab i a1 _ w1 hI (zP _ _ _) (dF _ _ _) (fun k hk=>qi _ _ _ _ zH)
  refine qW _ (step i _ w1 hlt' hI' (by rw[qi _ _ _ _ zH];exact h2) (by rw[zP];exact hs1) (by rw[qi _ _ _ _ zH];exact ht0)) ?_
  intro ex a2 w2 h
  cases ex with
  | normal =>
   obtain ⟨hI2,e2,e1,hs2,e0⟩:=h
   have e2':a2.eval (.tmp (t+2))=.int .i64 (i:Int):=by rw[e2,qi _ _ _ _ zH];exact h2
   have e1':a2.eval (.tmp (t+1))=.int .i64 (len:Int):=by rw[e1,qi _ _ _ _ zH];exact h1
   have hs2':a2.tmps.size=a.tmps.size:=by rw[hs2,zP];exact hs1
   refine vX ?_
   refine xN (k:=.i64) (m:=i) (n:=1) e2' rfl ?_
   refine rM (dn (vN ?_))
   have hw:IntKind.i64.wrap ((i:Int)+1)=((i+1:Nat):Int):=by rw[wrap_i64 zH zH];omega
   have hps:post<a2.tmps.size:=by omega
   have e3:((a2.put (some post) (.int .i64 (IntKind.i64.wrap ((i:Int)+1)))).put (some (t+2)) ((a2.put (some post) (.int .i64 (IntKind.i64.wrap ((i:Int)+1)))).eval (.tmp post))).eval (.tmp (t+2))=.int .i64 ((i+1:Nat):Int):=by
    rw[qD _ _ _ (by rw[zP];omega),qD _ _ _ hps,hw]
   refine ⟨⟨i+1,hlt',stab (i+1) a2 _ w2 hI2 (by simp only[zP]) (by simp only[dF]) (fun k hk=>by exact zE),e3,?_,by simp only[zP];exact hs2',?_⟩,?_⟩
   ·rw[qi _ _ _ _ zH,qi _ _ _ _ zH];exact e1'
   ·rw[qi _ _ _ _ zH,qi _ _ _ _ zH,e0,qi _ _ _ _ zH];exact ht0
   ·show len-(intOf _).toNat<len-(intOf _).toNat
    rw[e3,h2]
    simp only[intOf,Int.toNat_natCast]
    omega
  | _=>exact h.elim
 ·intro hge
  have hi':i=len:=by simp at hge;omega
  subst hi'
  refine xb ?_
  show Exit.inBlock b _ (.exit b) _ _
  simp only[Exit.inBlock,if_true]
  exact vN (done _ _ (stab i a1 _ w1 hI (zP _ _ _) (dF _ _ _) (fun k hk=>qi _ _ _ _ zH)))
end
end Go.Km
namespace Go.Km
open Go Go.RowKit
attribute [local irreducible] vc rO_ qz
def Wr1 (P:Program) (E:Env) (F:FuncId) (U:Gd) (args:List Value) (bs:List UInt8) (w:World):Prop :=
 ∀ dv (xs:List UInt8),w.ownsG U E.tU8 1 dv xs.length (xs.map bv)->U.u<=w.heap.size->xs.length+bs.length<=big →
  qa P F (#[dv]++args.toArray) w fun v' w'=>w'.ownsG U E.tU8 1 v' (xs++bs).length ((xs++bs).map bv)/\Below U.u w w'
def kP (w:World) (U:Nat) (v:Value):Option (List UInt8)->Prop
 | none=>v=.pointer none
 | some l=>∃ q,v=.pointer (some ⟨q,0,none⟩)/\q<U/\w.cell? ⟨q,0,none⟩=some (.string ⟨l.toArray⟩)
def jj (w:World) (U:Nat) (v:Value):Option (List UInt8)->Prop
 | none=>v=.slice none 0 0
 | some l=>∃ q o cap,v=.slice (some ⟨q,o,none⟩) l.length cap/\q<U/\qb w q o (l.map bv)
structure EnvW (P:Program) (E:Env) (T:List (Nat × List UInt8)->Prop):Prop where
 bytes:xu P E.tB=some (E.tU8,1)
 scal:∀ s,E.wScal s≠0->∀ n (U:Gd) w,s.ok n->Wr1 P E (E.wScal s) U [s.val n] (s.wr n) w
 uuid:E.wUuid≠0->∀ l (U:Gd) w,l.length=16->Wr1 P E E.wUuid U [.agg (l.map bv).toArray] l w
 str:E.wStr≠0->∀ l (U:Gd) w,Wr1 P E E.wStr U [.string ⟨l.toArray⟩] (xS false l) w
 cstr:E.wCStr≠0->∀ l (U:Gd) w,Wr1 P E E.wCStr U [.string ⟨l.toArray⟩] (xS true l) w
 nstr:E.wNStr≠0->∀ v o (U:Gd) w,kP w U.u v o->Wr1 P E E.wNStr U [v] (xK false o) w
 cnstr:E.wCNStr≠0->∀ v o (U:Gd) w,kP w U.u v o->Wr1 P E E.wCNStr U [v] (xK true o) w
 octs:E.wBytes≠0->∀ v o (U:Gd) w,jj w U.u v o->Wr1 P E E.wBytes U [v] (xa false (o.getD [])) w
 cocts:E.wCBytes≠0->∀ v o (U:Gd) w,jj w U.u v o->Wr1 P E E.wCBytes U [v] (xa true (o.getD [])) w
 nocts:E.wNBytes≠0->∀ v o (U:Gd) w,jj w U.u v o->Wr1 P E E.wNBytes U [v] (xj false o) w
 cnocts:E.wCNBytes≠0->∀ v o (U:Gd) w,jj w U.u v o->Wr1 P E E.wCNBytes U [v] (xj true o) w
 len:E.wLen≠0->∀ (n:Nat) (U:Gd) w,n<=big->Wr1 P E E.wLen U [.int .i64 n] (zg false n) w
 clen:E.wCLen≠0->∀ (n:Nat) (U:Gd) w,n<=big->Wr1 P E E.wCLen U [.int .i64 n] (zg true n) w
 nlen:E.wNLen≠0->∀ (n:Nat) (b:Bool) (U:Gd) w,n<=big->Wr1 P E E.wNLen U [.int .i64 n,.bool b] (if b then j7 false else zg false n) w
 cnlen:E.wCNLen≠0->∀ (n:Nat) (b:Bool) (U:Gd) w,n<=big->Wr1 P E E.wCNLen U [.int .i64 n,.bool b] (if b then j7 true else zg true n) w
 uvar:E.wUvarint≠0->∀ (n:Nat) (U:Gd) w,n<4294967296->Wr1 P E E.wUvarint U [.int .u32 n] (Go.Km.uvar n) w
 tlen:E.tLen≠0->∀ W0 (sb:Sb) b o v tags w,sb.T=T->W0.cell? ⟨b,o,none⟩=some v->xR W0 sb 0 v tags->Below W0.heap.size W0 w →
  qa P E.tLen #[.pointer (some ⟨b,o,none⟩)] w fun r w'=>r=.int .i64 (tags.length:Int)/\Grow w w'
 teach:E.tEach≠0->∀ W0 (sb:Sb) b o v tags w,sb.T=T->W0.cell? ⟨b,o,none⟩=some v->xR W0 sb 0 v tags->Below W0.heap.size W0 w →
  ∀ (G:Nat->Option Obj) dv (xs:List UInt8),w.ownsG ⟨W0.heap.size,G⟩ E.tU8 1 dv xs.length (xs.map bv)->xs.length+((tags.map qT).flatten).length<=big →
   qa P E.tEach #[.pointer (some ⟨b,o,none⟩),dv] w fun v' w' =>
    w'.ownsG ⟨W0.heap.size,G⟩ E.tU8 1 v' (xs++(tags.map qT).flatten).length ((xs++(tags.map qT).flatten).map bv)/\Below W0.heap.size w w'
def wu (P:Program) (t:TypeId) (n:Nat):Bool :=
 match qK P t with
 | some (.agg c)=>c.size==n
 | _=>false
theorem zeroAgg_inv {P:Program} {t n} (h:wu P t n=true):∃ z:List Value,qK P t=some (.agg z.toArray)/\z.length=n:=by
 unfold wu at h
 split at h
 ·rename_i c hc
  exact ⟨c.toList,by simpa using hc,by simpa using h⟩
 ·cases h
def sliceB (P:Program) (t:TypeId) (n:Nat):Bool :=
 match xu P t with
 | some (_,s)=>s==n
 | none=>false
theorem sliceB_inv {P:Program} {t n} (h:sliceB P t n=true):∃ e,xu P t=some (e,n):=by
 unfold sliceB at h
 split at h
 ·rename_i e s hs
  simp only[beq_iff_eq] at h
  subst h
  exact ⟨e,hs⟩
 ·cases h
def ptrB (P:Program) (t:TypeId):Bool :=
 match P.underlying t with
 | some (.pointer _)=>true
 | _=>false
theorem wQ {P:Program} {t} (h:ptrB P t=true):∃ e,P.underlying t=some (.pointer e):=by
 unfold ptrB at h
 split at h
 ·rename_i e he
  exact ⟨e,he⟩
 ·cases h
def Cx.ok (x:Cx) (F G:FuncId):Bool:=(G != 0)&&(x.fl.isNone||F != 0)
def Ver.nxt (m:Nat):Ver->Nat
 | .tag k _=>k+1
 | _=>m
def Scal.isInt:Scal->Bool
 | .bool | .f64=>false
 | _=>true
def Ver.okK (P:Program) (E:Env) (x:Cx) (m:Nat) (t:Ty):Ver->Bool
 | .tag k _=>decide (m<=k)&&decide (k<4294967296)&&x.fl.isSome&&xe P E.tU32s E.tW 1&&qQ P E.tW&&E.tW != E.tU8&&(match t with | .scal c _=>c.isInt | _=>false)
 | _=>true
mutual
def Ty.okW (P:Program) (E:Env) (x:Cx):Ty->Bool
 | .scal s _=>E.wScal s != 0&&qQ P (E.tScal s)
 | .named s T _=>E.wScal s != 0&&qQ P T
 | .uuid=>E.wUuid != 0&&z7 P E.tUuid==some 16&&wu P E.tUuid 16
 | .text=>x.ok E.wCStr E.wStr&&qQ P E.tStr
 | .ntext=>x.ok E.wCNStr E.wNStr&&qQ P E.tPStr
 | .ntextFrom _=>x.ok E.wCStr E.wStr&&x.ok E.wCNStr E.wNStr&&qQ P E.tPStr&&qQ P E.tStr&&ptrB P E.tPStr
 | .bytes=>x.ok E.wCBytes E.wBytes&&qQ P E.tB
 | .nbytes=>x.ok E.wCNBytes E.wNBytes&&qQ P E.tB
 | .list TS null e=>(if null.isSome then x.ok E.wCNLen E.wNLen else x.ok E.wCLen E.wLen)&&qQ P TS&&sliceB P TS e.size && !e.arr&&e.okW P E x
 | .struct _ TU _ fs=>fs.okW P E x TU 0 0
 | .nstruct TP TU _ fs PP=>xe P E.tB E.tU8 1&&ptrB P TP&&qQ P TP&&fs.okW P E x TU 0 0
def Flds.okW (P:Program) (E:Env) (x:Cx) (TU:TypeId) (idx off:Nat) (m:Nat:=0):Flds->Bool
 | .nil tags=>x.fl.isNone||(tags&&qk P TU idx==some off&&E.tLen != 0&&E.tEach != 0&&E.wUvarint != 0)
 | .cons v t r=>qk P TU idx==some off&&t.okW P E x&&(v.okK P E x m t&&Flds.okW P E x TU (idx+1) (off+t.size) (v.nxt m) r)
end
structure WSt (P:Program) (E:Env) (W0:World) (G:Nat->Option Obj) (x:Cx) (ver:Nat) (fx:Bool) (a:Act) (w:World) (xs:List UInt8):Prop where
 below:Below W0.heap.size W0 w
 own:w.ownsG ⟨W0.heap.size,G⟩ E.tU8 1 (a.eval (.tmp 1)) xs.length (xs.map bv)
 ver:a.eval (.tmp x.vs)=.int .i16 (ver:Int)
 fl:∀ f,x.fl=some f->a.eval (.tmp f)=.bool fx
def KW (L n t:Nat) (k:Nat):Prop:=k≠1/\(k<n\/(L<=k/\k<t))
theorem KW.mono {L n n' t t':Nat} (hn:n<=n') (ht:t<=t'):∀ k,KW L n t k->KW L n' t' k:=fun k ⟨h1,h2⟩=>⟨h1,by omega⟩
structure WSl (x:Cx) (L n t:Nat) (fx:Bool):Prop where
 one:1<n
 vs:x.vs<n/\x.vs≠1
 fl:∀ f,x.fl=some f->f<n/\f≠1
 no:x.fl=none->fx=false
 nL:n<=L
 Lt:L<=t
theorem WSl.kt {x:Cx} {L n t:Nat} {fx:Bool} (h:WSl x L n t fx):∀ d,t<=d->¬ KW L n t d:=by
 rintro d hd ⟨_,h2⟩
 have:=h.nL;have:=h.Lt
 omega
theorem WSl.k1 {x:Cx} {L n t:Nat} {fx:Bool} (h:WSl x L n t fx):¬ KW L n t 1:=fun h=>h.1 rfl
theorem WSl.up {x:Cx} {L n t n' t':Nat} {fx:Bool} (h:WSl x L n t fx) (hn:n<=n') (hL:n'<=L) (ht:t<=t'):WSl x L n' t' fx :=
 ⟨by have:=h.one;omega,⟨by have:=h.vs.1;omega,h.vs.2⟩,fun f hf=>⟨by have:=(h.fl f hf).1;omega,(h.fl f hf).2⟩,h.no,hL,by have:=h.Lt;omega⟩
section
variable {P : Program} {E : Env} {W0 : World} {sb : Sb} {G : Nat → Option Obj}
theorem WSt.fr {x:Cx} {ver:Nat} {fx:Bool} {a a':Act} {w:World} {xs:List UInt8} {L n t:Nat} (h:WSt P E W0 G x ver fx a w xs) (hs:WSl x L n t fx) (hf:Fr (KW L n t) a a') (h1:a'.eval (.tmp 1)=a.eval (.tmp 1)) :
  WSt P E W0 G x ver fx a' w xs :=
 ⟨h.below,by rw[h1];exact h.own,by rw[hf.slot _ ⟨hs.vs.2,.inl hs.vs.1⟩];exact h.ver,fun f hh=>by rw[hf.slot _ ⟨(hs.fl f hh).2,.inl (hs.fl f hh).1⟩];exact h.fl f hh⟩
theorem WSt.step {x:Cx} {ver:Nat} {fx:Bool} {a a':Act} {w w':World} {xs bs:List UInt8} {v':Value} {L n t:Nat} (h:WSt P E W0 G x ver fx a w xs) (hs:WSl x L n t fx) (hf:Fr (KW L n t) a a') (h1:a'.eval (.tmp 1)=v')
  (hc:w'.ownsG ⟨W0.heap.size,G⟩ E.tU8 1 v' (xs++bs).length ((xs++bs).map bv)/\Below W0.heap.size w w'):WSt P E W0 G x ver fx a' w' (xs++bs) :=
 ⟨h.below.trans hc.2,by rw[h1];exact hc.1,by rw[hf.slot _ ⟨hs.vs.2,.inl hs.vs.1⟩];exact h.ver,fun f hh=>by rw[hf.slot _ ⟨(hs.fl f hh).2,.inl (hs.fl f hh).1⟩];exact h.fl f hh⟩
theorem WSt.size {x:Cx} {ver:Nat} {fx:Bool} {a:Act} {w:World} {xs:List UInt8} (h:WSt P E W0 G x ver fx a w xs):W0.heap.size<=w.heap.size:=h.below.size
def Ty.Holds (W0 w:World) (a:Act) (v:Nat) (cs:List Value) (t:Ty):Prop :=
 match t.tp with
 | some _=>∃ b o,a.eval (.tmp v)=.pointer (some ⟨b,o,none⟩)/\qb W0 b o cs
 | none=>if t.arr then ∃ q,a.eval (.tmp v)=.pointer (some ⟨q,0,none⟩)/\qb w q 0 cs else cs=[a.eval (.tmp v)]
def Ty.WOk (P:Program) (E:Env) (W0:World) (sb:Sb) (ty:Ty):Prop :=
 ∀ (G:Nat->Option Obj) (x:Cx) (ver:Nat) (fx:Bool) (L v n t b B:Nat) (a:Act) (w:World) (xs:List UInt8) (cs:List Value) (d:D) (Q:Exit->Act->World->Prop),
  ty.okW P E x=true->WSl x L n t fx->v<n->v≠1->n+ty.wn<=L->t+ty.wt x<=a.tmps.size →
  WSt P E W0 G x ver fx a w xs->ty.Holds W0 w a v cs->ty.Rep W0 sb B cs d->xs.length+(ty.wr fx ver d).length<=big →
  (∀ a' w',Fr (KW L n t) a a'->WSt P E W0 G x ver fx a' w' (xs++ty.wr fx ver d)->Q .normal a' w')->vc P (sq (ty.wc E x v n t b)) Q a w
def u32v (n:Nat):Value:=.int .u32 n
def KW1 (L n t:Nat) (k:Nat):Prop:=k<n\/(L<=k/\k<t)
structure KX where
 kw:KWr
 p:Option (List UInt8)
structure KX.ok (P:Program) (E:Env) (W0:World) (x:Cx) (ver:Nat) (fx:Bool) (s pb po:Nat) (e:KX):Prop where
 ask:fx=true->∀ (L n t U:Nat) (a:Act) (w:World) (ns:List Nat) (Q:Exit->Act->World->Prop),L<=t->n+1<=L->s<n->t+e.kw.askT<=a.tmps.size->a.eval (.tmp s)=.pointer (some ⟨pb,po,none⟩)->Below W0.heap.size W0 w->U<=w.heap.size->ns.length+1<=big →
  w.ownsRow U E.tW 1 (a.eval (.tmp n)) ns.length (ns.map u32v) →
  (∀ a' w',Fr (KW1 L n t) a a'->w'.ownsRow U E.tW 1 (a'.eval (.tmp n)) (ns++if e.p.isSome then [e.kw.k] else []).length ((ns++if e.p.isSome then [e.kw.k] else []).map u32v)->Below U w w'->Q .normal a' w')->vc P (e.kw.ask n t) Q a w
 cas:∀ pl,e.p=some pl->∀ (G:Nat->Option Obj) (L n t b:Nat) (a:Act) (w:World) (xs:List UInt8) (Q:Exit->Act->World->Prop),WSl x L n t fx->s<n->s≠1->n+e.kw.casN<=L->t+e.kw.casT<=a.tmps.size →
  WSt P E W0 G x ver fx a w xs->a.eval (.tmp s)=.pointer (some ⟨pb,po,none⟩)->xs.length+(qT (e.kw.k,pl)).length<=big →
  (∀ a' w',Fr (KW L n t) a a'->WSt P E W0 G x ver fx a' w' (xs++qT (e.kw.k,pl))->Q .normal a' w')->vc P (e.kw.cas n t b) Q a w
def qB (kt:List KX):List (Nat × List UInt8):=kt.filterMap fun e=>e.p.map fun p=>(e.kw.k,p)
structure KXs (P:Program) (E:Env) (W0:World) (x:Cx) (ver:Nat) (fx:Bool) (s pb po m:Nat) (kt:List KX) (tags:List (Nat × List UInt8)):Prop where
 ok:∀ e ∈ kt,e.ok P E W0 x ver fx s pb po
 lt:∀ e ∈ kt,e.kw.k<m
 asc:kt.Pairwise fun e f=>e.kw.k<f.kw.k
 beh:∀ e ∈ kt,∀ y ∈ tags,e.kw.k<y.1
 fl:kt≠[]->x.fl.isSome=true/\xe P E.tU32s E.tW 1=true/\qQ P E.tW=true/\E.tW≠E.tU8/\∀ e ∈ kt,e.kw.k<4294967296
theorem KXs.nil {P:Program} {E:Env} {W0:World} {x:Cx} {ver:Nat} {fx:Bool} {s pb po m:Nat} {tags:List (Nat × List UInt8)}:KXs P E W0 x ver fx s pb po m [] tags :=
 ⟨fun e h=>by simp at h,fun e h=>by simp at h,List.Pairwise.nil,fun e h=>by simp at h,fun h=>absurd rfl h⟩
def Flds.WOk (P:Program) (E:Env) (W0:World) (sb:Sb) (fs:Flds):Prop :=
 ∀ (G:Nat->Option Obj) (x:Cx) (ver:Nat) (fx:Bool) (L TP TU s idx off n t b B pb po m:Nat) (a:Act) (w:World) (xs:List UInt8) (cs:List Value) (ds:List D) (tags:List (Nat × List UInt8)) (kt:List KX) (Q:Exit->Act->World->Prop),
  fs.okW P E x TU idx off m=true->WSl x L n t fx->s<n->s≠1->n+fs.wn (kt.map (·.kw.casN))<=L->t+fs.wt x (kt.map fun e=>e.kw.askT+(2+e.kw.casT))<=a.tmps.size →
  WSt P E W0 G x ver fx a w xs->a.eval (.tmp s)=.pointer (some ⟨pb,po,none⟩)->qb W0 pb (po+off) cs->fs.Rep W0 sb B cs ds tags->KXs P E W0 x ver fx s pb po m kt tags->xs.length+(fs.wr fx ver ds (qB kt++tags)).length<=big →
  (∀ a' w',Fr (KW L n t) a a'->WSt P E W0 G x ver fx a' w' (xs++fs.wr fx ver ds (qB kt++tags))->Q .normal a' w')->vc P (sq (Flds.wc E x TP TU s idx (kt.map (·.kw)) n t b fs)) Q a w
theorem w_app {F:FuncId} {T:TypeId} {x:Cx} {ver:Nat} {fx:Bool} {L v n t:Nat} {a:Act} {w:World} {xs bs:List UInt8} {arg:Value} {Q:Exit->Act->World->Prop}
  (hs:WSl x L n t fx) (hv:v<n) (hsz:t+3<=a.tmps.size) (hst:WSt P E W0 G x ver fx a w xs) (ha:a.eval (.tmp v)=arg) (hc:Wr1 P E F ⟨W0.heap.size,G⟩ [arg] bs w) (hb:xs.length+bs.length<=big)
  (k:∀ a' w',Fr (KW L n t) a a'->WSt P E W0 G x ver fx a' w' (xs++bs)->Q .normal a' w'):vc P (kL E F T v t) Q a w:=by
 have h1:=hs.one;have h2:=hs.nL;have h3:=hs.Lt
 exact m_app rfl ha (hc _ xs hst.own hst.size hb) hs.kt hs.k1 zH zH hsz (fun a' v' w' hf e hS=>k a' w' hf (hst.step hs hf e hS))
theorem w_flex {F F2:FuncId} {T:TypeId} {x:Cx} {ver:Nat} {fx:Bool} {L v n t:Nat} {a:Act} {w:World} {xs:List UInt8} {bs:Bool->List UInt8} {arg:Value} {Q:Exit->Act->World->Prop}
  (hs:WSl x L n t fx) (hv:v<n) (hv1:v≠1) (hsz:t+x.nt 3<=a.tmps.size) (hst:WSt P E W0 G x ver fx a w xs) (ha:a.eval (.tmp v)=arg)
  (hF:fx=true->Wr1 P E F ⟨W0.heap.size,G⟩ [arg] (bs true) w) (hG:fx=false->Wr1 P E F2 ⟨W0.heap.size,G⟩ [arg] (bs false) w) (hb:xs.length+(bs fx).length<=big)
  (k:∀ a' w',Fr (KW L n t) a a'->WSt P E W0 G x ver fx a' w' (xs++bs fx)->Q .normal a' w'):vc P (kE E x t 3 (kL E F T v) (kL E F2 T v)) Q a w:=by
 have h1:=hs.one;have h2:=hs.nL;have h3:=hs.Lt
 refine m_flex (K:=KW L n t) (fx:=fx) (fun f hf=>⟨hst.fl f hf,by have:=(hs.fl f hf).1;omega⟩) hs.no hs.kt zH hsz ?_ ?_
 ·intro hfx a' t' hf ht' hsz' he
  subst hfx
  refine w_app (n:=n) (L:=L) (hs.up (Nat.le_refl _) hs.nL ht') hv (by rw[hf.size];exact hsz') (hst.fr hs hf (he 1 zH)) (by rw[he v zH];exact ha) (hF rfl) hb ?_
  exact fun a2 w2 hf2 hst2=>k a2 w2 (hf.trans (hf2.mono (KW.mono (Nat.le_refl _) ht'))) hst2
 ·intro hfx a' t' hf ht' hsz' he
  subst hfx
  refine w_app (n:=n) (L:=L) (hs.up (Nat.le_refl _) hs.nL ht') hv (by rw[hf.size];exact hsz') (hst.fr hs hf (he 1 zH)) (by rw[he v zH];exact ha) (hG rfl) hb ?_
  exact fun a2 w2 hf2 hst2=>k a2 w2 (hf.trans (hf2.mono (KW.mono (Nat.le_refl _) ht'))) hst2
theorem Cx.ok_inv {x:Cx} {F G:FuncId} (h:x.ok F G=true):G≠0/\(∀ fx,(x.fl=none->fx=false)->fx=true->F≠0):=by
 simp only[Cx.ok,Bool.and_eq_true,bne_iff_ne,ne_eq,Bool.or_eq_true] at h
 refine ⟨h.1,fun fx hno hfx=>?_⟩
 rcases h.2 with h | h
 ·cases hx:x.fl with
  | none=>have:=hno hx;rw[this] at hfx;cases hfx
  | some f=>rw[hx] at h;cases h
 ·exact h
theorem wok_scal (H:EnvW P E sb.T) (s:Scal) (df:Int):(Ty.scal s df).WOk P E W0 sb:=by
 intro G x ver fx L v n t b B a w xs cs d Q hok hs hv hv1 hn ht hst hh hr hb k
 simp only[Ty.okW,Bool.and_eq_true,bne_iff_ne,ne_eq] at hok
 cases d with
 | int m =>
  simp only[Ty.Rep] at hr
  simp only[Ty.Holds,Ty.tp,Ty.arr] at hh
  have he:a.eval (.tmp v)=s.val m:=by
   have:=hh.symm.trans hr.1
   simpa using this
  simp only[Ty.wr] at hb k
  simp only[Ty.wc]
  exact w_app hs hv ht hst he (H.scal s hok.1 m _ _ hr.2) hb k
 | _=>exact absurd hr (by simp[Ty.Rep])
theorem wok_named (H:EnvW P E sb.T) (s:Scal) (T:TypeId) (df:Int):(Ty.named s T df).WOk P E W0 sb:=by
 intro G x ver fx L v n t b B a w xs cs d Q hok hs hv hv1 hn ht hst hh hr hb k
 simp only[Ty.okW,Bool.and_eq_true,bne_iff_ne,ne_eq] at hok
 have h1:=hs.one;have h2:=hs.nL;have h3:=hs.Lt
 simp only[Ty.wn] at hn
 simp only[Ty.wt] at ht
 cases d with
 | int m =>
  simp only[Ty.Rep] at hr
  simp only[Ty.Holds,Ty.tp,Ty.arr] at hh
  have he:a.eval (.tmp v)=s.val m:=by
   have:=hh.symm.trans hr.1
   simpa using this
  simp only[Ty.wr] at hb k
  simp only[Ty.wc]
  refine vX (rM (rA (dn ?_)))
  have hf:Fr (KW L n t) a ((a.put (some t) (a.eval (.tmp v))).put (some n) ((a.put (some t) (a.eval (.tmp v))).eval (.tmp t))) :=
   ((Fr.refl _ a).put _ (hs.kt t (Nat.le_refl _))).put _ (by rintro ⟨_,h | h⟩<;>omega)
  have he1:((a.put (some t) (a.eval (.tmp v))).put (some n) ((a.put (some t) (a.eval (.tmp v))).eval (.tmp t))).eval (.tmp 1)=a.eval (.tmp 1):=by exact zE
  have hen:((a.put (some t) (a.eval (.tmp v))).put (some n) ((a.put (some t) (a.eval (.tmp v))).eval (.tmp t))).eval (.tmp n)=s.val m:=by exact zA
  refine vS (w_app (n:=n+1) (t:=t+1) (hs.up zH zH zH) zH (by rw[hf.size];omega) (hst.fr hs hf he1) hen (H.scal s hok.1 m _ _ hr.2) hb ?_)
  exact fun a' w' hf' hst'=>vN (k a' w' (hf.trans (hf'.mono (KW.mono zH zH))) hst')
 | _=>exact absurd hr (by simp[Ty.Rep])
theorem wok_uuid (H:EnvW P E sb.T):(Ty.uuid).WOk P E W0 sb:=by
 intro G x ver fx L v n t b B a w xs cs d Q hok hs hv hv1 hn ht hst hh hr hb k
 simp only[Ty.okW,Bool.and_eq_true,bne_iff_ne,ne_eq,beq_iff_eq] at hok
 have h1:=hs.one;have h2:=hs.nL;have h3:=hs.Lt
 cases d with
 | bytes o =>
  cases o with
  | none=>exact absurd hr (by simp[Ty.Rep])
  | some l =>
   simp only[Ty.Rep] at hr
   obtain ⟨hl,rfl⟩:=hr
   simp only[Ty.Holds,Ty.tp,Ty.arr,if_true] at hh
   obtain ⟨q,hq,hc⟩:=hh
   simp only[Ty.wr] at hb k
   simp only[Ty.wc]
   refine vS (m_appArr (K:=KW L n t) rfl hq (by rw[hok.1.2];simp[hl]) hc (H.uuid hok.1.1 l _ _ hl _ xs hst.own hst.size hb) hs.kt hs.k1 zH zH ht ?_)
   exact fun a' v' w' hf e hS=>vN (k a' w' hf (hst.step hs hf e hS))
 | _=>exact absurd hr (by simp[Ty.Rep])
theorem wok_text (H:EnvW P E sb.T):(Ty.text).WOk P E W0 sb:=by
 intro G x ver fx L v n t b B a w xs cs d Q hok hs hv hv1 hn ht hst hh hr hb k
 simp only[Ty.okW,Bool.and_eq_true] at hok
 obtain ⟨hG,hF⟩:=Cx.ok_inv hok.1
 cases d with
 | bytes o =>
  cases o with
  | none=>exact absurd hr (by simp[Ty.Rep])
  | some l =>
   simp only[Ty.Rep] at hr
   simp only[Ty.Holds,Ty.tp,Ty.arr] at hh
   have he:a.eval (.tmp v)=.string ⟨l.toArray⟩:=by
    have:=hh.symm.trans hr
    simpa using this
   simp only[Ty.wr] at hb k
   simp only[Ty.wc]
   exact w_flex (bs:=fun fx=>xS fx l) hs hv hv1 ht hst he (fun hfx=>H.cstr (hF fx hs.no hfx) l _ _) (fun _=>H.str hG l _ _) hb k
 | _=>exact absurd hr (by simp[Ty.Rep])
theorem pstr_of_rep {w:World} {B:Nat} {v:Value} {o:Option (List UInt8)} (hw:Below W0.heap.size W0 w) (h:(Ty.ntext).Rep W0 sb B [v] (.bytes o)):kP w W0.heap.size v o:=by
 cases o with
 | none=>simp only[Ty.Rep] at h;simpa [kP] using h
 | some l =>
  simp only[Ty.Rep] at h
  obtain ⟨q,hv,_,hc⟩:=h
  have hq:=qo hc
  exact ⟨q,by simpa using hv,hq,by rw[hw.cell (p:=⟨q,0,none⟩) hq];exact hc⟩
theorem qb.below {w w':World} {B b o:Nat} {cs:List Value} (h:qb w b o cs) (hw:Below B w w') (hb:b<B):qb w' b o cs :=
 fun i v hv=>by rw[hw.cell (p:=⟨b,o+i,none⟩) hb];exact h i v hv
theorem oct_of_rep {w:World} {B:Nat} {v:Value} {o:Option (List UInt8)} (hw:Below W0.heap.size W0 w) (h:(Ty.nbytes).Rep W0 sb B [v] (.bytes o)):jj w W0.heap.size v o:=by
 cases o with
 | none=>simp only[Ty.Rep] at h;simpa [jj] using h
 | some l =>
  simp only[Ty.Rep] at h
  obtain ⟨q,o,cap,hv,_,hc,hq⟩:=h
  exact ⟨q,o,cap,by simpa using hv,hq,hc.below hw hq⟩
theorem wok_ntext (H:EnvW P E sb.T):(Ty.ntext).WOk P E W0 sb:=by
 intro G x ver fx L v n t b B a w xs cs d Q hok hs hv hv1 hn ht hst hh hr hb k
 simp only[Ty.okW,Bool.and_eq_true] at hok
 obtain ⟨hG,hF⟩:=Cx.ok_inv hok.1
 have hh':cs=[a.eval (.tmp v)]:=by simpa [Ty.Holds,Ty.tp,Ty.arr] using hh
 subst hh'
 cases d with
 | bytes o =>
  have hp:kP w W0.heap.size (a.eval (.tmp v)) o:=pstr_of_rep hst.below hr
  simp only[Ty.wr] at hb k
  simp only[Ty.wc]
  exact w_flex (bs:=fun fx=>xK fx o) hs hv hv1 ht hst rfl (fun hfx=>H.cnstr (hF fx hs.no hfx) _ o _ _ hp) (fun _=>H.nstr hG _ o _ _ hp) hb k
 | _=>exact absurd hr (by simp[Ty.Rep])
theorem r_neNilP {d T x ty p af g ad} {e:TypeId} {a:Act} {w:World} {r:List Oper} {Q:Exit->Act->World->Prop} (hT:P.underlying T=some (.pointer e)) (hx:a.eval x=.pointer ad) (h:rO_ P Q r (a.put (some d) (.bool (!ad.isNone))) w) :
  rO_ P Q (⟨some d,.binOp .neq T x (.const (.pointer none)) T,ty,p,af,g⟩::r) a w:=by
 refine st ?_
 have hb:(binOp .neq T (.pointer ad) (.pointer none)).run P w=.ok (.bool (!ad.isNone)) w:=by
  have h0:∀ k:Nat,(Op.equalIn (k+1) T (.pointer ad) (.pointer none)).run P w=.ok ad.isNone w:=fun k=>by
   cases ad<;>simp[Op.equalIn,run_underlying hT]
  simp only[binOp]
  simp[Op.equal,Op.maxDepth,h0 9999]
 have hg:(eqGuard .neq T x (.const (.pointer none)) (.pointer ad) (.pointer none))=pure ():=by cases ad<;>rfl
 simp only[Oper.wp,execOp,hx,xg,hg,hb,Sem.run_bind,Sem.run_pure,Result.andThen_ok,Oper.upon_value]
 exact h
set_option maxHeartbeats 1000000 in
theorem wok_ntextFrom (H:EnvW P E sb.T) (N:Nat):(Ty.ntextFrom N).WOk P E W0 sb:=by
 intro G x ver fx L v n t b B a w xs cs d Q hok hs hv hv1 hn ht hst hh hr hb k
 simp only[Ty.okW,Bool.and_eq_true] at hok
 obtain ⟨⟨⟨⟨hok1,hok2⟩,hP⟩,hS⟩,hT⟩:=hok
 obtain ⟨hG1,hF1⟩:=Cx.ok_inv hok1
 obtain ⟨hG2,hF2⟩:=Cx.ok_inv hok2
 obtain ⟨te,hT⟩:=wQ hT
 have h1:=hs.one;have h2:=hs.nL;have h3:=hs.Lt
 simp only[Ty.wn] at hn
 simp only[Ty.wt] at ht
 have hh':cs=[a.eval (.tmp v)]:=by simpa [Ty.Holds,Ty.tp,Ty.arr] using hh
 subst hh'
 cases d with
 | bytes o =>
  have hr':(Ty.ntext).Rep W0 sb B [a.eval (.tmp v)] (.bytes o):=by cases o<;>simpa [Ty.Rep] using hr
  have hp:kP w W0.heap.size (a.eval (.tmp v)) o:=pstr_of_rep hst.below hr'
  simp only[Ty.wr] at hb k
  simp only[Ty.wc]
  refine vS (m_ifLss (K:=KW L n t) hst.ver (by have:=hs.vs.1;omega) hs.kt zH ?_ ?_)
  ·intro hlt a1 hf1 he1
   rw[if_pos hlt] at hb
   simp only[if_pos hlt] at k
   have hz1:=hf1.size
   have fin:∀ a2,Fr (KW L n t) a a2->a2.eval (.tmp n)=.string ⟨(o.getD []).toArray⟩->a2.eval (.tmp 1)=a.eval (.tmp 1) →
     vc P (sq [rg [qd (t+7) (.tmp n) E.tStr,qc (n+1) (.tmp (t+7)) E.tStr],kE E x (t+8) 3 (kL E E.wCStr E.tStr (n+1)) (kL E E.wStr E.tStr (n+1))]) (Exit.then (vc P (sq []) Q) Q) a2 w:=by
    intro a2 hf2 hen he21
    have hz2:=hf2.size
    refine vX (rM (rA (dn ?_)))
    generalize ha3:Act.put _ (some (n+1)) _=a3
    have hf3:Fr (KW L n t) a a3:=by
     subst ha3
     exact (hf2.put _ (hs.kt _ zH)).put _ (by rintro ⟨_,h | h⟩<;>omega)
    have he3:a3.eval (.tmp (n+1))=.string ⟨(o.getD []).toArray⟩:=by subst ha3;exact zA
    have he31:a3.eval (.tmp 1)=a.eval (.tmp 1):=by subst ha3;exact zA
    clear ha3
    refine vS (w_flex (n:=n+2) (L:=L) (t:=t+8) (bs:=fun fx=>xS fx (o.getD [])) (hs.up zH zH zH) zH zH (by rw[hf3.size];omega) (hst.fr hs hf3 he31) he3 (fun hfx=>H.cstr (hF1 fx hs.no hfx) _ _ _) (fun _=>H.str hG1 _ _ _) hb ?_)
    exact fun a4 w4 hf4 hst4=>vN (vN (k a4 w4 (hf3.trans (hf4.mono (KW.mono zH zH))) hst4))
   have hva:a1.eval (.tmp v)=a.eval (.tmp v):=he1 v zH
   have h11:a1.eval (.tmp 1)=a.eval (.tmp 1):=he1 1 zH
   refine vX (rA (dn ?_))
   generalize ha2:Act.put a1 (some n) _=a2
   have hf2:Fr (KW L n t) a a2:=by subst ha2;exact hf1.put _ (by rintro ⟨_,h | h⟩<;>omega)
   have hz2:=hf2.size
   have he2:a2.eval (.tmp n)=.string ⟨#[]⟩:=by subst ha2;exact zE
   have he2v:a2.eval (.tmp v)=a.eval (.tmp v):=by subst ha2;exact zA
   have he21:a2.eval (.tmp 1)=a.eval (.tmp 1):=by subst ha2;exact zA
   clear ha2
   refine vS (vX (rM ?_))
   cases o with
   | none =>
    have hpv:a.eval (.tmp v)=.pointer none:=hp
    refine r_neNilP (ad:=none) hT (by simp (disch:=(try simp only[sP]);omega) only[eV,he2v,hpv]) ?_
    refine dn ?_
    refine vS (vC (t:=false) zA (fun h=>by cases h) (fun _=>?_))
    refine vK (vN ?_)
    refine fin _ ((hf2.put _ (hs.kt _ zH)).put _ (hs.kt _ zH)) ?_ ?_
    ·simp (disch:=(try simp only[sP]);omega) only[eV,he2]
     rfl
    ·exact zA
   | some l =>
    obtain ⟨q,hpv,hq,hqc⟩:=hp
    refine r_neNilP (ad:=some ⟨q,0,none⟩) hT (by simp (disch:=(try simp only[sP]);omega) only[eV,he2v,hpv]) ?_
    refine dn ?_
    refine vS (vC (t:=true) zA (fun _=>?_) (fun h=>by cases h))
    refine vR zS ?_
    refine rM ?_
    refine qY (ad:=⟨q,0,none⟩) (by simp (disch:=(try simp only[sP]);omega) only[eV,he2v,hpv]) ?_
    refine rL (b:=q) (o:=0) (v:=.string ⟨l.toArray⟩) zE hS hqc ?_
    refine rA (dn (vN ?_))
    refine fin _ ((((((hf2.put _ (hs.kt _ zH)).put _ (hs.kt _ zH)).put _ (hs.kt _ zH)).put _ (hs.kt _ zH)).put _ (hs.kt _ zH)).put _ (by rintro ⟨_,h | h⟩<;>omega)) ?_ ?_
    ·simp (disch:=(try simp only[sP]);omega) only[eV]
     rfl
    ·exact zA
  ·intro hlt a1 hf1 he1
   rw[if_neg hlt] at hb
   simp only[if_neg hlt] at k
   have hva:a1.eval (.tmp v)=a.eval (.tmp v):=he1 v zH
   have h11:a1.eval (.tmp 1)=a.eval (.tmp 1):=he1 1 zH
   refine w_flex (n:=n) (L:=L) (t:=t+8+x.nt 3) (bs:=fun fx=>xK fx o) (hs.up (Nat.le_refl _) zH zH) hv hv1 (by rw[hf1.size];omega) (hst.fr hs hf1 h11) hva (fun hfx=>H.cnstr (hF2 fx hs.no hfx) _ o _ _ hp) (fun _=>H.nstr hG2 _ o _ _ hp) hb ?_
   exact fun a4 w4 hf4 hst4=>vN (k a4 w4 (hf1.trans (hf4.mono (KW.mono zH zH))) hst4)
 | _=>exact absurd hr (by simp[Ty.Rep])
theorem wok_bytes (H:EnvW P E sb.T):(Ty.bytes).WOk P E W0 sb:=by
 intro G x ver fx L v n t b B a w xs cs d Q hok hs hv hv1 hn ht hst hh hr hb k
 simp only[Ty.okW,Bool.and_eq_true] at hok
 obtain ⟨hG,hF⟩:=Cx.ok_inv hok.1
 have hh':cs=[a.eval (.tmp v)]:=by simpa [Ty.Holds,Ty.tp,Ty.arr] using hh
 subst hh'
 cases d with
 | bytes o =>
  have hr':(Ty.nbytes).Rep W0 sb B [a.eval (.tmp v)] (.bytes o):=by cases o<;>simpa [Ty.Rep] using hr
  have hp:jj w W0.heap.size (a.eval (.tmp v)) o:=oct_of_rep hst.below hr'
  simp only[Ty.wr] at hb k
  simp only[Ty.wc]
  exact w_flex (bs:=fun fx=>xa fx (o.getD [])) hs hv hv1 ht hst rfl (fun hfx=>H.cocts (hF fx hs.no hfx) _ o _ _ hp) (fun _=>H.octs hG _ o _ _ hp) hb k
 | _=>exact absurd hr (by simp[Ty.Rep])
theorem wok_nbytes (H:EnvW P E sb.T):(Ty.nbytes).WOk P E W0 sb:=by
 intro G x ver fx L v n t b B a w xs cs d Q hok hs hv hv1 hn ht hst hh hr hb k
 simp only[Ty.okW,Bool.and_eq_true] at hok
 obtain ⟨hG,hF⟩:=Cx.ok_inv hok.1
 have hh':cs=[a.eval (.tmp v)]:=by simpa [Ty.Holds,Ty.tp,Ty.arr] using hh
 subst hh'
 cases d with
 | bytes o =>
  have hp:jj w W0.heap.size (a.eval (.tmp v)) o:=oct_of_rep hst.below hr
  simp only[Ty.wr] at hb k
  simp only[Ty.wc]
  exact w_flex (bs:=fun fx=>xj fx o) hs hv hv1 ht hst rfl (fun hfx=>H.cnocts (hF fx hs.no hfx) _ o _ _ hp) (fun _=>H.nocts hG _ o _ _ hp) hb k
 | _=>exact absurd hr (by simp[Ty.Rep])
end
end Go.Km
namespace Go.Km
open Go Go.RowKit
attribute [local irreducible] vc rO_ qz
theorem vh (f n:Nat):1<=(uvF f n).length:=by
 cases f with
 | zero=>simp[uvF]
 | succ f=>simp only[uvF];split<;>simp
theorem uvar_pos (n:Nat):1<=(uvar n).length:=vh 9 n
theorem vM (tags:List (Nat × List UInt8)):tags.length<=((tags.map qT).flatten).length:=by
 induction tags with
 | nil=>simp
 | cons x l ih =>
  have:=uvar_pos x.1
  simp only[List.map_cons,List.flatten_cons,List.length_cons,List.length_append,qT]
  omega
section
variable {P : Program} {E : Env} {W0 : World} {sb : Sb} {G : Nat → Option Obj}
structure EnvI (P:Program) (E:Env):Prop where
 int:qr P E.tI=some .i64
 u32:qr P E.tW=some .u32
theorem ownsRow_grow {w w':World} {B e s:Nat} {v:Value} {n:Nat} {xs:List Value} (h:w.ownsRow B e s v n xs) (hg:Grow w w'):w'.ownsRow B e s v n xs:=by
 refine ⟨h.1,?_⟩
 rcases h.2 with hn | ⟨g,cap,cur,hv,hb,hh,r⟩
 ·exact .inl hn
 ·refine .inr ⟨g,cap,cur,hv,hb,?_,r⟩
  rw[hg.blockEq (Array.getElem?_eq_some_iff.1 hh).1 (fun _ h=>h)]
  exact hh
theorem wd {w w':World} {U:Gd} {e s:Nat} {v:Value} {n:Nat} {xs:List Value} (h:w.ownsG U e s v n xs) (hg:Grow w w'):w'.ownsG U e s v n xs :=
 ⟨ownsRow_grow h.own hg,fun b o hb=>⟨by rw[hg.blockEq (Array.getElem?_eq_some_iff.1 (h.kept b o hb).1).1 (fun _ h=>h)];exact (h.kept b o hb).1,(h.kept b o hb).2⟩⟩
theorem ownsRow_below {w w':World} {B e s:Nat} {v:Value} {n:Nat} {xs:List Value} (h:w.ownsRow B e s v n xs) (hb:Below w.heap.size w w'):w'.ownsRow B e s v n xs:=by
 refine ⟨h.1,?_⟩
 rcases h.2 with hn | ⟨g,cap,cur,hv,hb1,hh,r⟩
 ·exact .inl hn
 ·refine .inr ⟨g,cap,cur,hv,hb1,?_,r⟩
  rw[hb.block g (Array.getElem?_eq_some_iff.1 hh).1]
  exact hh
theorem ownsG_below {w w':World} {U:Gd} {e s:Nat} {v:Value} {n:Nat} {xs:List Value} (h:w.ownsG U e s v n xs) (hb:Below w.heap.size w w'):w'.ownsG U e s v n xs :=
 ⟨ownsRow_below h.own hb,fun b o hg=>⟨by rw[hb.block b (Array.getElem?_eq_some_iff.1 (h.kept b o hg).1).1];exact (h.kept b o hg).1,(h.kept b o hg).2⟩⟩
theorem wq.mono {w:World} {B B':Nat} {v:Value} {l:List UInt8} (h:wq w sb B v l) (hB:B'<=B):wq w sb B' v l:=by
 rcases h with h | ⟨c,o,cap,hv,hc,h⟩
 ·exact .inl h
 ·exact .inr ⟨c,o,cap,hv,hc.imp id (fun h=>by omega),h⟩
theorem xR.mono {w:World} {B B':Nat} {v:Value} {tags:List (Nat × List UInt8)} (h:xR w sb B v tags) (hB:B'<=B):xR w sb B' v tags:=by
 obtain ⟨h1,h0,h2⟩:=h
 refine ⟨h1,h0,?_⟩
 rcases h2 with h2 | ⟨q,es,clock,hv,hq,hs,hm,hb,hn,l,hl,hsz,he⟩
 ·exact .inl h2
 ·refine .inr ⟨q,es,clock,hv,by omega,hs,hm,hb,hn,l,hl,hsz,fun i x hx=>?_⟩
  obtain ⟨e,h1,h2,h3⟩:=he i x hx
  exact ⟨e,h1,h2,h3.mono hB⟩
section
variable {Q : Exit → Act → World → Prop} {a : Act} {w : World} {K : Nat → Prop}
theorem m_tagsA {TP TU:TypeId} {s f t pb po off:Nat} {dv:Value} {n:Nat} {S1:World->Prop} {S:Value->World->Prop} (HI:EnvI P E) (hd:a.eval (.tmp 1)=dv) (hp:a.eval (.tmp s)=.pointer (some ⟨pb,po,none⟩)) (hoff:qk P TU f=some off)
  (hlen:qa P E.tLen #[.pointer (some ⟨pb,po+off,none⟩)] w fun r w'=>r=.int .i64 (n:Int)/\S1 w') (hn:n<4294967296)
  (happ:∀ w1,S1 w1->qa P E.wUvarint #[dv,.int .u32 (n:Int)] w1 S) (ht:∀ d,t<=d->¬ K d) (hk1:¬ K 1) (h1:1<t) (hst:s<t) (hsz:t+9<=a.tmps.size)
  (k:∀ a' v' w',Fr K a a'->a'.eval (.tmp 1)=v'->S v' w'->Q .normal a' w') :
  vc P (rg [qd (t+1) (.tmp 1) E.tB,qd (t+2) (.tmp s) TP,jk (t+3) (.tmp (t+2)),xB (t+4) TU (.tmp (t+3)) f,xi (some (t+5)) E.tLen #[.tmp (t+4)] #[E.tTags] E.tI,
    wW (t+6) E.tI E.tW (.tmp (t+5)),zL (t+7) .add E.tW (.const (.int .u32 0)) (.tmp (t+6)) E.tW E.tW,
    xi (some (t+8)) E.wUvarint #[.tmp (t+1),.tmp (t+7)] #[E.tB,E.tW] E.tB,qc 1 (.tmp (t+8)) E.tB]) Q a w:=by
 have hwr:IntKind.u32.wrap (n:Int)=(n:Int):=IntWalk.u32_in _ ⟨by omega,by omega⟩
 refine vR zS ?_
 refine rM (rM ?_)
 refine qY (ad:=⟨pb,po,none⟩) zA ?_
 refine rF (b:=pb) (o:=po) zE hoff ?_
 refine q8 (args:=#[.pointer (some ⟨pb,po+off,none⟩)]) ?_ hlen ?_
 ·simp only[lM]
  exact zE
 rintro r w1 ⟨rfl,hs1⟩
 refine qL (k:=.i64) (k':=.u32) (m:=n) HI.int HI.u32 zE ?_
 rw[hwr]
 refine xN (k:=.u32) (m:=0) (n:=n) rfl zE ?_
 rw[Int.zero_add,hwr]
 refine q8 (args:=#[dv,.int .u32 (n:Int)]) ?_ (happ w1 hs1) ?_
 ·simp only[lM]
  simp (disch:=(try simp only[sP]);omega) only[eV,hd]
 intro v' w2 hs2
 refine rA (dn ?_)
 refine k _ v' w2 ?_ zE hs2
 exact (((((((((Fr.refl K a).put _ (ht _ zH)).put _ (ht _ zH)).put _ (ht _ zH)).put _ (ht _ zH)).put _ (ht _ zH)).put _ (ht _ zH)).put _ (ht _ zH)).put _ (ht _ zH)).put _ hk1
theorem m_tagsB {TP TU:TypeId} {s f t pb po off:Nat} {dv:Value} {S:Value->World->Prop} (hd:a.eval (.tmp 1)=dv) (hp:a.eval (.tmp s)=.pointer (some ⟨pb,po,none⟩)) (hoff:qk P TU f=some off)
  (hc:qa P E.tEach #[.pointer (some ⟨pb,po+off,none⟩),dv] w S) (ht:∀ d,t<=d->¬ K d) (hk1:¬ K 1) (h1:1<t) (hst:s<t) (hsz:t+14<=a.tmps.size)
  (k:∀ a' v' w',Fr K a a'->a'.eval (.tmp 1)=v'->S v' w'->Q .normal a' w') :
  vc P (rg [qd (t+9) (.tmp s) TP,jk (t+10) (.tmp (t+9)),xB (t+11) TU (.tmp (t+10)) f,qd (t+12) (.tmp 1) E.tB,
    xi (some (t+13)) E.tEach #[.tmp (t+11),.tmp (t+12)] #[E.tTags,E.tB] E.tB,qc 1 (.tmp (t+13)) E.tB]) Q a w:=by
 refine vR zS ?_
 refine rM ?_
 refine qY (ad:=⟨pb,po,none⟩) zA ?_
 refine rF (b:=pb) (o:=po) zE hoff ?_
 refine rM ?_
 refine q8 (args:=#[.pointer (some ⟨pb,po+off,none⟩),dv]) ?_ hc ?_
 ·simp only[lM]
  simp (disch:=(try simp only[sP]);omega) only[eV,hd]
 intro v' w2 hs2
 refine rA (dn ?_)
 refine k _ v' w2 ?_ zE hs2
 exact ((((((Fr.refl K a).put _ (ht _ zH)).put _ (ht _ zH)).put _ (ht _ zH)).put _ (ht _ zH)).put _ (ht _ zH)).put _ hk1
end
theorem ya:∀ (l:List (Nat × List UInt8)) (k:Nat) (p:List UInt8) (r:List (Nat × List UInt8)),(∀ x ∈ l,x.1<k)->(∀ x ∈ r,k<x.1)->qv k p (l++r)=l++(k,p)::r
 | [],k,p,[],_,_=>rfl
 | [],k,p,x::r,_,h=>by
  have:=h x zS
  simp[qv,this]
 | x::l,k,p,r,h1,h2=>by
  have:=h1 x zS
  simp only[List.cons_append,qv]
  rw[if_neg zH,if_neg zH,ya l k p r (fun y hy=>h1 y (by simp[hy])) h2]
theorem knTags_mem {kt:List KX} {x:Nat × List UInt8} (h:x ∈ qB kt):∃ e ∈ kt,e.kw.k=x.1/\e.p=some x.2:=by
 unfold qB at h
 obtain ⟨e,he,hx⟩:=List.mem_filterMap.1 h
 cases hp:e.p with
 | none=>rw[hp] at hx;cases hx
 | some p =>
  rw[hp] at hx
  simp only[Option.map_some,Option.some.injEq] at hx
  subst hx
  exact ⟨e,he,rfl,hp⟩
theorem knTags_snoc (kt:List KX) (e:KX):qB (kt++[e])=qB kt++(match e.p with | some p=>[(e.kw.k,p)] | none=>[]):=by
 unfold qB
 rw[List.filterMap_append]
 cases hp:e.p<;>simp[hp]
theorem flatten_take' (l:List (Nat × List UInt8)) (i:Nat) (h:i<l.length):((l.take (i+1)).map qT).flatten=((l.take i).map qT).flatten++qT l[i]:=by
 rw[List.take_succ_eq_append_getElem h,List.map_append,List.flatten_append]
 simp
theorem flatten_take_le' (l:List (Nat × List UInt8)) (i:Nat):((l.take i).map qT).flatten.length<=((l.map qT).flatten).length:=by
 have:l=l.take i++l.drop i:=(List.take_append_drop i l).symm
 conv=>rhs;rw[this]
 rw[List.map_append,List.flatten_append,List.length_append]
 omega
theorem KW1.mono {L n t t':Nat} (ht:t<=t'):∀ k,KW1 L n t k->KW1 L n t' k:=fun k h=>h.imp id (fun h=>⟨h.1,by omega⟩)
theorem KW1.kt {L n t:Nat} (hnL:n<=L) (hLt:L<=t):∀ d,t<=d->¬ KW1 L n t d:=by
 rintro d hd (h | h)<;>omega
section
variable {x : Cx} {ver : Nat} {fx : Bool} {s pb po : Nat}
theorem m_asks (hfx:fx=true) {L n U:Nat} {rest:List Code}:∀ (kt:List KX) (t:Nat) (a:Act) (w:World) (ns:List Nat) (Q:Exit->Act->World->Prop),(∀ e ∈ kt,e.ok P E W0 x ver fx s pb po)->L<=t->n+1<=L->s<n->t+qS (kt.map (·.kw))<=a.tmps.size →
  a.eval (.tmp s)=.pointer (some ⟨pb,po,none⟩)->Below W0.heap.size W0 w->W0.heap.size<=U->U<=w.heap.size->ns.length+(qB kt).length+1<=big->w.ownsRow U E.tW 1 (a.eval (.tmp n)) ns.length (ns.map u32v) →
  (∀ a' w',Fr (KW1 L n t) a a'->w'.ownsRow U E.tW 1 (a'.eval (.tmp n)) (ns++(qB kt).map (·.1)).length ((ns++(qB kt).map (·.1)).map u32v)->Below U w w'->vc P (sq rest) Q a' w')->vc P (sq (kwAsks n (kt.map (·.kw)) t++rest)) Q a w
 | [],t,a,w,ns,Q,hok,hL,hn,hs,hsz,hp,hb,hU0,hU,hl,hown,k=>by
  simp only[List.map_nil,kwAsks,List.nil_append]
  exact k a w (Fr.refl _ _) (by simpa [qB] using hown) (Below.refl _ _)
 | e::kt,t,a,w,ns,Q,hok,hL,hn,hs,hsz,hp,hb,hU0,hU,hl,hown,k=>by
  simp only[List.map_cons,kwAsks,List.cons_append]
  simp only[qS,List.map_cons,List.sum_cons] at hsz
  have hkl:(if e.p.isSome then 1 else 0)+(qB kt).length=(qB (e::kt)).length:=by
   unfold qB
   cases hp:e.p<;>simp[hp];omega
  refine vS ((hok e zS).ask hfx L n t U a w ns _ hL hn hs zH hp hb hU zH hown ?_)
  intro a1 w1 hf1 hown1 hb1
  have hz1:=hb1.size
  have hle:(ns++if e.p.isSome then [e.kw.k] else []).length=ns.length+(if e.p.isSome then 1 else 0):=by cases e.p<;>simp
  refine m_asks hfx kt (t+e.kw.askT) a1 w1 _ Q (fun f hf=>hok f (by simp[hf])) zH hn hs (by rw[hf1.size];unfold qS;omega) (by rw[hf1.slot s (.inl hs)];exact hp) (hb.trans (hb1.mono hU0)) hU0 zH zH hown1 ?_
  intro a2 w2 hf2 hown2 hb2
  refine k a2 w2 (hf1.trans (hf2.mono (KW1.mono zH))) ?_ (hb1.trans hb2)
  have he:(ns++if e.p.isSome then [e.kw.k] else [])++(qB kt).map (·.1)=ns++(qB (e::kt)).map (·.1):=by
   unfold qB
   cases hp:e.p<;>simp[hp]
  rw[he] at hown2
  exact hown2
theorem m_chain {G:Nat->Option Obj} {L key k:Nat} {pl:List UInt8}:∀ (kt:List KX) (n t b:Nat) (a:Act) (w:World) (xs:List UInt8) (Q:Exit->Act->World->Prop),(∀ e ∈ kt,e.ok P E W0 x ver fx s pb po)->kt.Pairwise (fun e f=>e.kw.k<f.kw.k)->(k,pl) ∈ qB kt →
  WSl x L n t fx->s<n->s≠1->n+(kt.map (·.kw.casN)).sum<=L->t+zx (kt.map (·.kw))<=a.tmps.size->key<t->L<=key->a.eval (.tmp key)=.int .u32 (k:Int)->WSt P E W0 G x ver fx a w xs->a.eval (.tmp s)=.pointer (some ⟨pb,po,none⟩)->xs.length+(qT (k,pl)).length<=big →
  (∀ a' w',Fr (KW L n t) a a'->WSt P E W0 G x ver fx a' w' (xs++qT (k,pl))->Q .normal a' w')->vc P (wX E key (kt.map (·.kw)) n t b) Q a w
 | [],n,t,b,a,w,xs,Q,hok,has,hm,hs,hsn,hs1,hn,ht,hkt,hLk,hk,hst,hp,hb,kk=>by simp[qB] at hm
 | e::kt,n,t,b,a,w,xs,Q,hok,has,hm,hs,hsn,hs1,hn,ht,hkt,hLk,hk,hst,hp,hb,kk=>by
  have h1:=hs.one;have h2:=hs.nL;have h3:=hs.Lt
  have has':=List.pairwise_cons.1 has
  simp only[List.map_cons,List.sum_cons] at hn
  simp only[zx,List.map_cons,List.sum_cons] at ht
  simp only[List.map_cons,wX]
  refine vX ?_
  refine xy (k:=.u32) (m:=(k:Int)) (n:=(e.kw.k:Int)) zA rfl ?_
  refine rA (dn ?_)
  generalize hA:Act.put _ (some t) _=A
  have hf:Fr (KW L n t) a A:=by subst hA;exact ((Fr.refl _ a).put _ (hs.kt _ zH)).put _ (hs.kt _ zH)
  have he:∀ j,j<t->A.eval (.tmp j)=a.eval (.tmp j):=by intro j hj;subst hA;exact zE
  have hc:A.eval (.tmp t)=.bool ((k:Int)==(e.kw.k:Int)):=by subst hA;exact zE
  have hz:=hf.size
  clear hA
  have hst':=hst.fr hs hf (he 1 zH)
  have hmem:(k,pl) ∈ qB (e::kt):=hm
  refine vS (vC (t:=((k:Int)==(e.kw.k:Int))) hc ?_ ?_)
  ·intro hkk
   have hkk:k=e.kw.k:=by
    have:=eq_of_beq hkk
    omega
   have hpe:e.p=some pl:=by
    obtain ⟨f,hf1,hf2,hf3⟩:=knTags_mem hmem
    rcases List.mem_cons.1 hf1 with rfl | hf1
    ·exact hf3
    ·have:=has'.1 f hf1
     simp only at hf2
     omega
   rw[hkk] at hb kk
   refine (hok e zS).cas pl hpe G L n (t+2) b A w xs _ (hs.up (Nat.le_refl _) hs.nL zH) hsn hs1 zH (by rw[hz];omega) hst' (by rw[he s zH];exact hp) hb ?_
   intro a' w' hf2 hst2
   exact vN (kk a' w' (hf.trans (hf2.mono (KW.mono (Nat.le_refl _) zH))) hst2)
  ·intro hkk
   have hkk:k≠e.kw.k:=fun h=>by rw[h] at hkk;simp at hkk
   have hm':(k,pl) ∈ qB kt:=by
    unfold qB at hmem ⊢
    rw[List.filterMap_cons] at hmem
    cases hpe:e.p with
    | none=>simpa [hpe] using hmem
    | some q =>
     simp only[hpe,Option.map_some,List.mem_cons,Prod.mk.injEq] at hmem
     rcases hmem with ⟨h,_⟩ | h
     ·exact absurd h hkk
     ·exact h
   refine qW _ (m_chain kt (n+e.kw.casN) (t+2+e.kw.casT) (b+e.kw.casB) A w xs (fun ex a' w'=>ex=.normal/\Q .normal a' w') (fun f hf=>hok f (by simp[hf])) has'.2 hm' (hs.up zH zH zH) zH hs1 zH (by rw[hz];unfold zx;omega) zH hLk (by rw[he key zH];exact hk) hst' (by rw[he s zH];exact hp) hb ?_) ?_
   ·intro a' w' hf2 hst2
    exact ⟨rfl,kk a' w' (hf.trans (hf2.mono (KW.mono zH zH))) hst2⟩
   ·rintro ex a' w' ⟨rfl,hq⟩
    exact vN hq
end
def jR (G:Nat->Option Obj) (v:Value) (w:World):Nat->Option Obj:=fun b=>if v.ownBlock=some b then w.heap[b]? else G b
theorem keepRow_ok {G:Nat->Option Obj} {w w0:World} {U0 U n:Nat} {v dv:Value} {e e2:TypeId} {m:Nat} {zs xs:List Value} (hne:e≠e2) (hown:w.ownsG ⟨U0,G⟩ e2 1 dv m xs) (hr:w.ownsRow U e 1 v n zs):w.ownsG ⟨U0,jR G v w⟩ e2 1 dv m xs:=by
 refine ⟨hown.own,fun b o hb=>?_⟩
 unfold jR at hb
 simp only at hb
 split at hb
 ·rename_i hv
  rcases hr.2 with ⟨rfl,_⟩ | ⟨g,cap,cur,rfl,_,h3,_⟩
  ·cases hv
  ·simp only[Value.ownBlock,Option.some.injEq] at hv
   subst hv
   rw[h3] at hb
   cases hb
   exact ⟨h3,fun cur' h=>by cases h;exact hne rfl⟩
 ·exact hown.kept b o hb
theorem wZ {G:Nat->Option Obj} {w w':World} {U0 U n:Nat} {v dv:Value} {e e2:TypeId} {m:Nat} {zs xs:List Value} (hr:w.ownsRow U e 1 v n zs) (h:w'.ownsG ⟨U0,jR G v w⟩ e2 1 dv m xs) :
  ∃ ad cap,v=.slice ad n cap/\∀ j u,zs[j]? = some u->∃ g,ad=some ⟨g,0,none⟩/\w'.cell? ⟨g,j,none⟩=some u:=by
 rcases hr.2 with ⟨rfl,rfl⟩ | ⟨g,cap,cur,rfl,hb,h3,h4,h5,h6,h7⟩
 ·refine ⟨none,0,rfl,fun j u hu=>?_⟩
  have:zs=[]:=List.eq_nil_of_length_eq_zero (by simpa using hr.1)
  subst this
  simp at hu
 ·refine ⟨some ⟨g,0,none⟩,cap,rfl,fun j u hu=>⟨g,rfl,?_⟩⟩
  have h8:=hr.cells (g:=g) rfl j u hu
  rw[Addr.add_lit,Nat.zero_add] at h8
  have h9:=(h.kept g (.cells cur e (0,0)) (by simp[jR,Value.ownBlock,h3])).1
  rw[World.cell?_of_block (w:=w) (w':=w') (a:=⟨g,j,none⟩) (by rw[h9,h3])]
  exact h8
theorem keepRow_back {G:Nat->Option Obj} {w w0 w':World} {U0 U n:Nat} {v dv dv0:Value} {e e2:TypeId} {m m0:Nat} {zs xs xs0:List Value} (h0:w0.ownsG ⟨U0,G⟩ e2 1 dv0 m0 xs0) (hU:w0.heap.size<=U) (hr:w.ownsRow U e 1 v n zs) (h:w'.ownsG ⟨U0,jR G v w⟩ e2 1 dv m xs):w'.ownsG ⟨U0,G⟩ e2 1 dv m xs:=by
 refine ⟨h.own,fun b o hb=>?_⟩
 refine h.kept b o ?_
 unfold jR
 simp only
 rw[if_neg ?_]
 ·exact hb
 ·intro hv
  have h1:=(Array.getElem?_eq_some_iff.1 (h0.kept b o hb).1).1
  have h2:=(hr.lt b hv).1
  omega
theorem wTagsK_eq (E:Env) (x:Cx) (TP TU:TypeId) (s f n t b:Nat) (kt:List KWr) (fl:Nat) (h:x.fl=some fl):wTagsK E x TP TU s f n t b kt =
  [sq [rg [qd t (.tmp fl) E.tO],.cond (.tmp t) (sq (rg [qc n (.const (.slice none 0 0)) E.tU32s]::(kwAsks n kt (t+1) ++
   [rg [qd (t+1+qS kt) (.tmp 1) E.tB,qd (t+1+qS kt+1) (.tmp n) E.tU32s,xH (t+1+qS kt+2) .len #[.tmp (t+1+qS kt+1)] #[E.tU32s] E.tI,qd (t+1+qS kt+3) (.tmp s) TP,jk (t+1+qS kt+4) (.tmp (t+1+qS kt+3)),xB (t+1+qS kt+5) TU (.tmp (t+1+qS kt+4)) f,
    xi (some (t+1+qS kt+6)) E.tLen #[.tmp (t+1+qS kt+5)] #[E.tTags] E.tI,zL (t+1+qS kt+7) .add E.tI (.tmp (t+1+qS kt+2)) (.tmp (t+1+qS kt+6)) E.tI E.tI,wW (t+1+qS kt+8) E.tI E.tW (.tmp (t+1+qS kt+7)),
    xi (some (t+1+qS kt+9)) E.wUvarint #[.tmp (t+1+qS kt),.tmp (t+1+qS kt+8)] #[E.tB,E.tW] E.tB,qc 1 (.tmp (t+1+qS kt+9)) E.tB],
    wLoop E E.tU32s n (t+1+qS kt+10) b (t+1+qS kt+17+zx kt) (sq [rg [zY (t+1+qS kt+14) E.tU32s (.tmp (t+1+qS kt+10)) (.tmp (t+1+qS kt+12)),kZ (t+1+qS kt+15) E.tW (.tmp (t+1+qS kt+14)),qc (n+2) (.tmp (t+1+qS kt+15)) E.tW],
       rg [qd (t+1+qS kt+16) (.tmp (n+2)) E.tW],.block (b+2) (wX E (t+1+qS kt+16) kt (n+3) (t+1+qS kt+17) (b+3))]),
    rg [qd (t+1+qS kt+17+zx kt+1) (.tmp s) TP,jk (t+1+qS kt+17+zx kt+2) (.tmp (t+1+qS kt+17+zx kt+1)),xB (t+1+qS kt+17+zx kt+3) TU (.tmp (t+1+qS kt+17+zx kt+2)) f,qd (t+1+qS kt+17+zx kt+4) (.tmp 1) E.tB,
    xi (some (t+1+qS kt+17+zx kt+5)) E.tEach #[.tmp (t+1+qS kt+17+zx kt+3),.tmp (t+1+qS kt+17+zx kt+4)] #[E.tTags,E.tB] E.tB,qc 1 (.tmp (t+1+qS kt+17+zx kt+5)) E.tB]]))) .skip]]:=by
 unfold wTagsK
 rw[h]
 rfl
theorem kwT_sum:∀ kt:List KX,qS (kt.map (·.kw))+zx (kt.map (·.kw))=(kt.map fun e=>e.kw.askT+(2+e.kw.casT)).sum
 | []=>rfl
 | e::l=>by
  have ih:=kwT_sum l
  unfold qS zx at ih ⊢
  simp only[List.map_cons,List.sum_cons] at ih ⊢
  omega
set_option maxHeartbeats 2000000 in
theorem wok_nilK (H:EnvW P E sb.T) (HI:EnvI P E) {tg:Bool} {x:Cx} {ver:Nat} {fx:Bool} {L TP TU s idx off n t b B pb po m:Nat} {a:Act} {w:World} {xs:List UInt8} {cs:List Value} {ds:List D} {tags:List (Nat × List UInt8)} {kt:List KX} {Q:Exit->Act->World->Prop} (hne:kt≠[])
  (hok:(Flds.nil tg).okW P E x TU idx off m=true) (hs:WSl x L n t fx) (hsn:s<n) (hs1:s≠1) (hn:n+(3+(kt.map (·.kw.casN)).sum)<=L) (ht:t+(1+17+(kt.map fun e=>e.kw.askT+(2+e.kw.casT)).sum+1+5)<=a.tmps.size)
  (hst:WSt P E W0 G x ver fx a w xs) (hp:a.eval (.tmp s)=.pointer (some ⟨pb,po,none⟩)) (hc:qb W0 pb (po+off) cs) (hr:(Flds.nil tg).Rep W0 sb B cs ds tags) (hkx:KXs P E W0 x ver fx s pb po m kt tags) (hb:xs.length+((Flds.nil tg).wr fx ver ds (qB kt++tags)).length<=big)
  (k:∀ a' w',Fr (KW L n t) a a'->WSt P E W0 G x ver fx a' w' (xs++(Flds.nil tg).wr fx ver ds (qB kt++tags))->Q .normal a' w'):vc P (sq (wTagsK E x TP TU s idx n t b (kt.map (·.kw)))) Q a w:=by
 have h1:=hs.one;have h2:=hs.nL;have h3:=hs.Lt
 obtain ⟨hfl,hrow,hone,hneq,hk32⟩:=hkx.fl hne
 obtain ⟨f,hx⟩:=Option.isSome_iff_exists.1 hfl
 simp only[Flds.okW,hx,Option.isNone_some,Bool.false_or,Bool.and_eq_true,bne_iff_ne,ne_eq,beq_iff_eq] at hok
 obtain ⟨⟨⟨⟨rfl,hoff⟩,htl⟩,hte⟩,hu⟩:=hok
 cases ds with
 | cons d ds=>exact absurd hr (by simp[Flds.Rep])
 | nil =>
 simp only[Flds.Rep,if_true] at hr
 obtain ⟨v,rfl,htr0⟩:=hr
 have htr:=htr0.mono (Nat.zero_le B)
 have hcv:W0.cell? ⟨pb,po+off,none⟩=some v:=by have:=hc 0 v rfl;simpa using this
 have hflv:=hst.fl f hx
 have hfn:=hs.fl f hx
 have hT:qS (kt.map (·.kw))+zx (kt.map (·.kw))=(kt.map fun e=>e.kw.askT+(2+e.kw.casT)).sum:=kwT_sum kt
 rw[wTagsK_eq E x TP TU s idx n t b _ f hx]
 generalize hq1:qS (kt.map (·.kw))=q1 at *
 generalize hq2:zx (kt.map (·.kw))=q2 at *
 refine vS (vX (rM (dn ?_)))
 have hf0:Fr (KW L n t) a (a.put (some t) (a.eval (.tmp f))):=(Fr.refl _ a).put _ (hs.kt t (Nat.le_refl _))
 have hst0:=hst.fr hs hf0 (qi _ _ _ _ zH)
 have hz0:=hf0.size
 refine vS (vC (t:=fx) zA ?_ ?_)
 ·intro hfx
  subst hfx
  simp only[Flds.wr,if_true] at hb k
  have htb:=vM (qB kt++tags)
  simp only[zQ,List.length_append] at hb htb
  have hup:=uvar_pos ((qB kt).length+tags.length)
  have hlt:(qB kt).length+tags.length<4294967296:=by unfold big at hb;omega
  refine vX (rA (dn ?_))
  generalize hA:Act.put _ (some n) _=A
  have hfA:Fr (KW L n t) a A:=by subst hA;exact hf0.put _ (by rintro ⟨_,h | h⟩<;>omega)
  have hA1:A.eval (.tmp 1)=a.eval (.tmp 1):=by subst hA;exact zE
  have hAn:A.eval (.tmp n)=.slice none 0 0:=by subst hA;exact zE
  have hzA:=hfA.size
  clear hA
  have hstA:=hst.fr hs hfA hA1
  have hpA:A.eval (.tmp s)=.pointer (some ⟨pb,po,none⟩):=by rw[hfA.slot s ⟨hs1,.inl hsn⟩];exact hp
  refine m_asks rfl (L:=L) (n:=n) (U:=w.heap.size) kt (t+1) A w [] _ hkx.ok zH zH hsn (by rw[hzA,hq1];omega) hpA hst.below hst.size (Nat.le_refl _) (by simp only[List.length_nil];omega) (by rw[hAn];exact World.ownsRow_nil _ _ _ _) ?_
  intro a1 w1 hf1 hown1 hb1
  have hz1:=hf1.size
  have hw1:=hb1.size
  simp only[List.nil_append] at hown1
  have hfa1:Fr (KW L n t) a a1:=hfA.trans (hf1.mono (fun j hj=>hj.2.imp id (fun h=>⟨h.1,by omega⟩)))
  have h11:a1.eval (.tmp 1)=a.eval (.tmp 1):=by rw[hf1.slot 1 (.inl zH),hA1]
  have hsl1:∀ j,j<n->a1.eval (.tmp j)=A.eval (.tmp j):=fun j hj=>hf1.slot j (.inl hj)
  have hownG:w1.ownsG ⟨W0.heap.size,jR G (a1.eval (.tmp n)) w1⟩ E.tU8 1 (a1.eval (.tmp 1)) xs.length (xs.map bv):=by
   rw[h11]
   exact keepRow_ok (w0:=w) (fun h=>hneq h) (ownsG_below hst.own hb1) hown1
  have hst1:WSt P E W0 (jR G (a1.eval (.tmp n)) w1) x ver true a1 w1 xs :=
   ⟨hst.below.trans (hb1.mono hst.size),hownG,by rw[hsl1 _ hs.vs.1];exact hstA.ver,fun g hg=>by rw[hsl1 _ (hs.fl g hg).1];exact hstA.fl g hg⟩
  have hp1:a1.eval (.tmp s)=.pointer (some ⟨pb,po,none⟩):=by rw[hsl1 s hsn];exact hpA
  obtain ⟨ad,cap,htv,_⟩:=wZ hown1 hownG
  have hnl:((qB kt).map (·.1)).length=(qB kt).length:=by simp
  have hwa:IntKind.i64.wrap ((((qB kt).map (·.1)).length:Int)+(tags.length:Int))=(((qB kt).length+tags.length:Nat):Int):=by rw[hnl,wrap_i64 zH zH];omega
  have hwu:IntKind.u32.wrap (((qB kt).length+tags.length:Nat):Int)=(((qB kt).length+tags.length:Nat):Int):=IntWalk.u32_in _ ⟨by omega,by omega⟩
  generalize hG1:jR G (a1.eval (.tmp n)) w1=G1 at *
  refine vX (rM (rM ?_))
  refine x7 (ad:=ad) (n:=((qB kt).map (·.1)).length) (c:=cap) (rB hrow) zA ?_
  refine rM ?_
  refine qY (ad:=⟨pb,po,none⟩) zA ?_
  refine rF (b:=pb) (o:=po) zE hoff ?_
  refine q8 (args:=#[.pointer (some ⟨pb,po+off,none⟩)]) ?_ (H.tlen htl W0 sb pb (po+off) v tags w1 rfl hcv htr hst1.below) ?_
  ·simp only[lM]
   exact zE
  rintro r w2 ⟨rfl,hg2⟩
  refine xN (k:=.i64) (m:=(((qB kt).map (·.1)).length:Int)) (n:=(tags.length:Int)) zE zE ?_
  rw[hwa]
  refine qL (k:=.i64) (k':=.u32) (m:=(((qB kt).length+tags.length:Nat):Int)) HI.int HI.u32 zE ?_
  rw[hwu]
  refine q8 (args:=#[a1.eval (.tmp 1),.int .u32 (((qB kt).length+tags.length:Nat):Int)]) ?_ (H.uvar hu ((qB kt).length+tags.length) ⟨W0.heap.size,G1⟩ w2 hlt _ xs (wd hst1.own hg2) (by have:=hg2.size;have:=hst1.size;show W0.heap.size<=_;omega) zH) ?_
  ·simp only[lM]
   exact zE
  intro v3 w3 hS3
  refine rA (dn ?_)
  generalize hB:Act.put _ (some 1) _=Bf
  have hfB:Fr (KW L (n+3) t) a1 Bf:=by
   subst hB
   exact ((((((((((((Fr.refl _ a1).put _ (by rintro ⟨_,h | h⟩<;>omega)).put _ (by rintro ⟨_,h | h⟩<;>omega)).put _ (by rintro ⟨_,h | h⟩<;>omega)).put _ (by rintro ⟨_,h | h⟩<;>omega)).put _ (by rintro ⟨_,h | h⟩<;>omega)).put _ (by rintro ⟨_,h | h⟩<;>omega)).put _ (by rintro ⟨_,h | h⟩<;>omega)).put _ (by rintro ⟨_,h | h⟩<;>omega)).put _ (by rintro ⟨_,h | h⟩<;>omega)).put _ (by rintro ⟨_,h | h⟩<;>omega)).put _ (fun h=>h.1 rfl))
  have hB1:Bf.eval (.tmp 1)=v3:=by subst hB;exact zE
  have hzB:=hfB.size
  clear hB
  have hst3:WSt P E W0 G1 x ver true Bf w3 (xs++uvar ((qB kt).length+tags.length)):=by
   have h4:=hst1.step (hs.up (n':=n+3) (t':=t) zH zH (Nat.le_refl _)) hfB hB1 (w':=w3) (bs:=uvar ((qB kt).length+tags.length)) ⟨hS3.1,(hg2.below.mono hst1.size).trans hS3.2⟩
   exact h4
  have hnB:Bf.eval (.tmp n)=.slice ad ((qB kt).map (·.1)).length cap:=by rw[hfB.slot n ⟨by omega,.inl zH⟩];exact htv
  have hpB:Bf.eval (.tmp s)=.pointer (some ⟨pb,po,none⟩):=by rw[hfB.slot s ⟨hs1,.inl zH⟩];exact hp1
  have hfaB:Fr (KW L n t) a Bf:=hfa1.trans (hfB.mono (KW.mono zH (Nat.le_refl _)))
  let I:Nat->Act->World->Prop:=fun i a' w'=>Fr (KW L n t) a a'/\WSt P E W0 G1 x ver true a' w' (xs++uvar ((qB kt).length+tags.length)++(((qB kt).take i).map qT).flatten)
  have stab:∀ i a' a2 w',I i a' w'->a2.tmps.size=a'.tmps.size->a2.defers=a'.defers->(∀ j,j<t+1+q1+10->a2.eval (.tmp j)=a'.eval (.tmp j))->I i a2 w':=by
   rintro i a' a2 w' ⟨hfr,hw⟩ hsz hdf hsl
   refine ⟨⟨hsz.trans hfr.size,hdf.trans hfr.defers,fun j hj=>?_⟩,⟨hw.below,by rw[hsl 1 zH];exact hw.own,by rw[hsl x.vs (by have:=hs.vs.1;omega)];exact hw.ver,fun g hg=>by rw[hsl g (by have:=(hs.fl g hg).1;omega)];exact hw.fl g hg⟩⟩
   rw[hsl j (by have:=hj.2;omega)]
   exact hfr.slot j hj
  refine vS (m_wloop hnB (rB hrow) (by rw[hnl];unfold big at hb;omega) zH zH (by rw[hzB,hz1,hzA];omega) I stab ⟨hfaB,by simpa using hst3⟩ ?_ ?_)
  ·intro i a2 w2' hi ⟨hfr2,hw2⟩ hcnt hsz2 ht02
   rw[hnl] at hi
   have hi':i<(qB kt).length:=hi
   obtain ⟨_,_,hadc,hcell⟩:=wZ (U0:=W0.heap.size) (G:=G) (w':=w2') (dv:=a2.eval (.tmp 1)) (e2:=E.tU8) hown1 (by rw[hG1];exact hw2.own)
   rw[htv] at hadc
   cases hadc
   obtain ⟨g,rfl,hcl⟩:=hcell i (u32v (qB kt)[i].1) (by simp[hi'])
   have hmem:(qB kt)[i] ∈ qB kt:=List.getElem_mem hi'
   have hone1:(u32v (qB kt)[i].1).oneCell'=true:=rfl
   refine vX ?_
   refine qA (j:=i) (k:=.i64) (b:=g) (o:=0) (len:=((qB kt).map (·.1)).length) (cap:=cap) (rB hrow) zA zA (by rw[hnl];exact hi) ?_
   refine rL (b:=g) (o:=0+i*1) zE hone (by rw[Nat.zero_add,Nat.mul_one];exact hcl) ?_
   refine rA (dn (vX (rM (dn ?_))))
   generalize hC:Act.put _ (some (t+1+q1+16)) _=C
   have hfC:Fr (KW L (n+2) (t+1+q1+14)) a2 C:=by
    subst hC
    exact ((((Fr.refl _ a2).put _ (by rintro ⟨_,h | h⟩<;>omega)).put _ (by rintro ⟨_,h | h⟩<;>omega)).put _ (by rintro ⟨_,h | h⟩<;>omega)).put _ (by rintro ⟨_,h | h⟩<;>omega)
   have hC1:C.eval (.tmp 1)=a2.eval (.tmp 1):=by subst hC;exact zE
   have hCk:C.eval (.tmp (t+1+q1+16))=.int .u32 ((qB kt)[i].1:Int):=by
    subst hC
    simp (disch:=(try simp only[sP]);omega) only[eV]
    rfl
   have hzC:=hfC.size
   clear hC
   have hs2:WSl x L (n+2) (t+1+q1+14) true:=hs.up zH zH zH
   have hstC:=hw2.fr hs2 hfC hC1
   have htk:=flatten_take' (qB kt) i hi'
   have hle:=flatten_take_le' (qB kt) (i+1)
   rw[htk,List.length_append] at hle
   have heta:(qT ((qB kt)[i].1,(qB kt)[i].2)).length=(qT (qB kt)[i]).length:=rfl
   simp only[List.map_append,List.flatten_append,List.length_append] at hb
   refine vS (qh (m_chain (G:=G1) (L:=L) (key:=t+1+q1+16) (k:=(qB kt)[i].1) (pl:=(qB kt)[i].2) kt (n+3) (t+1+q1+17) (b+2+1) C w2' _ _ hkx.ok hkx.asc hmem (hs.up zH zH zH) zH hs1 zH (by rw[hq2,hzC,hsz2,hzB,hz1,hzA];omega) zH zH hCk hstC (by rw[hfC.slot s ⟨hs1,.inl zH⟩,hfr2.slot s ⟨hs1,.inl hsn⟩];exact hp) (by simp only[List.length_append];omega) ?_))
   intro a3 w3' hf3 hst3'
   refine vN ⟨⟨(hfr2.trans (hfC.mono (KW.mono zH zH))).trans (hf3.mono (KW.mono zH zH)),?_⟩,?_,?_,?_,?_⟩
   ·rw[htk]
    simpa [List.append_assoc] using hst3'
   ·rw[hf3.slot _ ⟨by omega,.inr ⟨by omega,by omega⟩⟩,hfC.slot _ ⟨by omega,.inr ⟨by omega,by omega⟩⟩]
   ·rw[hf3.slot _ ⟨by omega,.inr ⟨by omega,by omega⟩⟩,hfC.slot _ ⟨by omega,.inr ⟨by omega,by omega⟩⟩]
   ·rw[hf3.size,hzC]
   ·rw[hf3.slot _ ⟨by omega,.inr ⟨by omega,by omega⟩⟩,hfC.slot _ ⟨by omega,.inr ⟨by omega,by omega⟩⟩]
  ·rintro a2 w2' ⟨hfr2,hw2⟩
   rw[hnl,List.take_length] at hw2
   have hp2:a2.eval (.tmp s)=.pointer (some ⟨pb,po,none⟩):=by rw[hfr2.slot s ⟨hs1,.inl hsn⟩];exact hp
   have hz2:=hfr2.size
   simp only[List.map_append,List.flatten_append,List.length_append] at hb
   refine vX (rM ?_)
   refine qY (ad:=⟨pb,po,none⟩) zA ?_
   refine rF (b:=pb) (o:=po) zE hoff ?_
   refine rM ?_
   refine q8 (args:=#[.pointer (some ⟨pb,po+off,none⟩),a2.eval (.tmp 1)]) ?_ (H.teach hte W0 sb pb (po+off) v tags w2' rfl hcv htr hw2.below G1 _ _ hw2.own (by simp only[List.length_append];omega)) ?_
   ·simp only[lM]
    exact zE
   intro v4 w4 hS4
   refine rA (dn ?_)
   generalize hD:Act.put _ (some 1) _=Df
   have hfD:Fr (KW L n t) a2 Df:=by
    subst hD
    exact ((((((Fr.refl _ a2).put _ (hs.kt _ zH)).put _ (hs.kt _ zH)).put _ (hs.kt _ zH)).put _ (hs.kt _ zH)).put _ (hs.kt _ zH)).put _ hs.k1
   have hD1:Df.eval (.tmp 1)=v4:=by subst hD;exact zE
   clear hD
   have hst4:=hw2.step hs hfD hD1 hS4
   refine vN (vN (vN (k Df w4 (hfr2.trans hfD) ?_)))
   have hback:w4.ownsG ⟨W0.heap.size,G⟩ E.tU8 1 (Df.eval (.tmp 1)) _ _:=keepRow_back hst.own (Nat.le_refl _) hown1 (by rw[hG1];exact hst4.own)
   have hfin:WSt P E W0 G x ver true Df w4 _:=⟨hst4.below,hback,hst4.ver,hst4.fl⟩
   simpa [zQ,List.append_assoc] using hfin
 ·intro hfx
  subst hfx
  refine vK (vN (vN (k _ w hf0 ?_)))
  simpa [Flds.wr] using hst0
end
end Go.Km
namespace Go.Km
open Go Go.RowKit
attribute [local irreducible] vc rO_ qz
section
variable {P : Program} {E : Env} {W0 : World} {sb : Sb} {G : Nat → Option Obj}
theorem wok_nil (H:EnvW P E sb.T) (HI:EnvI P E) (tg:Bool):(Flds.nil tg).WOk P E W0 sb:=by
 intro G x ver fx L TP TU s idx off n t b B pb po m a w xs cs ds tags kt Q hok hs hsn hs1 hn ht hst hp hc hr hkx hb k
 have h1:=hs.one;have h2:=hs.nL;have h3:=hs.Lt
 by_cases hne:kt≠[]
 ·have hme:∀ {α:Type} (f:KX->α),((kt.map f).isEmpty)=false:=by
   intro α f
   cases kt with
   | nil=>exact absurd rfl hne
   | cons e l=>rfl
  obtain ⟨f,hx⟩:=Option.isSome_iff_exists.1 (hkx.fl hne).1
  simp only[Flds.wn,hme,Bool.false_eq_true,if_false] at hn
  simp only[Flds.wt,hx,hme,Bool.false_eq_true,if_false] at ht
  simp only[Flds.wc,hme,Bool.false_eq_true,if_false]
  exact wok_nilK H HI hne hok hs hsn hs1 hn ht hst hp hc hr hkx hb k
 have hne:kt=[]:=by simpa using hne
 subst hne
 simp only[List.map_nil,qB,List.filterMap_nil,List.nil_append] at hn ht hb k ⊢
 simp only[Flds.wc,List.isEmpty_nil,if_true,wTags]
 cases hx:x.fl with
 | none =>
  have hfx:=hs.no hx
  subst hfx
  refine vN (k a w (Fr.refl _ _) ?_)
  simpa [Flds.wr] using hst
 | some f =>
  simp only[Flds.okW,hx,Option.isNone_some,Bool.false_or,Bool.and_eq_true,bne_iff_ne,ne_eq,beq_iff_eq] at hok
  obtain ⟨⟨⟨⟨rfl,hoff⟩,htl⟩,hte⟩,hu⟩:=hok
  simp only[Flds.wt,hx,List.isEmpty_nil,if_true] at ht
  cases ds with
  | cons d ds=>exact absurd hr (by simp[Flds.Rep])
  | nil =>
  simp only[Flds.Rep,if_true] at hr
  obtain ⟨v,rfl,htr0⟩:=hr
  have htr:=htr0.mono (Nat.zero_le B)
  have hcv:W0.cell? ⟨pb,po+off,none⟩=some v:=by have:=hc 0 v rfl;simpa using this
  have hfl:=hst.fl f hx
  have hfn:=hs.fl f hx
  refine vS (vX (rM (dn ?_)))
  have hf0:Fr (KW L n t) a (a.put (some t) (a.eval (.tmp f))):=(Fr.refl _ a).put _ (hs.kt t (Nat.le_refl _))
  have hst0:=hst.fr hs hf0 (qi _ _ _ _ zH)
  have hsz0:(a.put (some t) (a.eval (.tmp f))).tmps.size=a.tmps.size:=zP _ _ _
  refine vS (vC (t:=fx) zA ?_ ?_)
  ·intro hfx
   subst hfx
   simp only[Flds.wr,if_true] at hb k
   have htb:=vM tags
   simp only[zQ,List.length_append] at hb
   have hlt:tags.length<4294967296:=by unfold big at hb;omega
   refine vS (m_tagsA (K:=KW L n t) (n:=tags.length) (S1:=Grow w) HI rfl (by rw[qi _ _ _ _ zH];exact hp) hoff (H.tlen htl W0 sb pb (po+off) v tags _ rfl hcv htr hst.below) hlt
    (S:=fun v' w'=>w'.ownsG ⟨W0.heap.size,G⟩ E.tU8 1 v' (xs++uvar tags.length).length ((xs++uvar tags.length).map bv)/\Below W0.heap.size w w') ?_ hs.kt hs.k1 zH zH zH ?_)
   ·intro w1 hg
    refine (H.uvar hu tags.length ⟨W0.heap.size,G⟩ w1 hlt _ xs (wd hst0.own hg) (by have:=hg.size;have:=hst.size;show W0.heap.size<=_;omega) zH).mono ?_
    rintro v' w' ⟨h1,h2⟩
    exact ⟨h1,(hg.below.mono hst.size).trans h2⟩
   intro a1 v1 w1 hf1 e1 hS1
   have hst1:=hst0.step hs hf1 e1 hS1
   refine vS (m_tagsB (K:=KW L n t) rfl (by rw[hf1.slot s ⟨hs1,.inl hsn⟩,qi _ _ _ _ zH];exact hp) hoff
    (H.teach hte W0 sb pb (po+off) v tags w1 rfl hcv htr hst1.below G _ _ hst1.own (by simp only[List.length_append];omega)) hs.kt hs.k1 zH zH (by rw[hf1.size];omega) ?_)
   intro a2 v2 w2 hf2 e2 hS2
   have hst2:=hst1.step hs hf2 e2 hS2
   refine vN (vN (vN (k a2 w2 ((hf0.trans hf1).trans hf2) ?_)))
   simpa [zQ] using hst2
  ·intro hfx
   subst hfx
   refine vK (vN (vN (k _ w hf0 ?_)))
   simpa [Flds.wr] using hst0
theorem okW_one {x:Cx} {ty:Ty} (h:ty.okW P E x=true) (h1:ty.tp=none) (h2:ty.arr=false):qQ P (ty.T E)=true/\ty.size=1:=by
 cases ty<;>simp_all [Ty.okW,Ty.tp,Ty.arr,Ty.T,Ty.size]
theorem okW_arr {x:Cx} {ty:Ty} (h:ty.okW P E x=true) (h2:ty.arr=true):ty.tp=none/\z7 P (ty.T E)=some 16/\wu P (ty.T E) 16=true/\ty.size=16 ∧
  ∀ cs B d,ty.Rep W0 sb B cs d->cs.length=16/\∀ v ∈ cs,v.oneCell'=true:=by
 cases ty<;>simp_all [Ty.okW,Ty.tp,Ty.arr,Ty.T,Ty.size]
 intro cs B d hr
 cases d with
 | bytes o =>
  cases o with
  | none=>exact absurd hr (by simp[Ty.Rep])
  | some l =>
   simp only[Ty.Rep] at hr
   obtain ⟨hl,rfl⟩:=hr
   refine ⟨by simp[hl],?_⟩
   intro v hv
   obtain ⟨b,_,rfl⟩:=List.mem_map.1 hv
   rfl
 | _=>exact absurd hr (by simp[Ty.Rep])
theorem qb.take {w:World} {b o:Nat} {cs:List Value} (h:qb w b o cs) (n:Nat):qb w b o (cs.take n):=fun i v hv=>h i v (by
 rw[List.getElem?_take] at hv
 split at hv
 ·exact hv
 ·cases hv)
theorem qb.drop {w:World} {b o:Nat} {cs:List Value} (h:qb w b o cs) (n:Nat):qb w b (o+n) (cs.drop n):=fun i v hv=>by
 rw[List.getElem?_drop] at hv
 have:=h (n+i) v hv
 rwa [show o+n+i=o+(n+i) by omega]
theorem wn_cons {v:Ver} (h:v.isTag=false) (kz:List Nat) (t:Ty) (r:Flds):Flds.wn kz (.cons v t r)=1+t.wn+Flds.wn kz r:=by cases v<;>first | rfl | cases h
theorem wt_cons {v:Ver} (h:v.isTag=false) (x:Cx) (kz:List Nat) (t:Ty) (r:Flds):Flds.wt x kz (.cons v t r)=v.nt+t.h+t.wt x+Flds.wt x kz r:=by cases v<;>first | rfl | cases h
theorem wc_cons {v:Ver} (h:v.isTag=false) (E:Env) (x:Cx) (TP TU:TypeId) (s idx:Nat) (kt:List KWr) (n t b:Nat) (ty:Ty) (r:Flds):Flds.wc E x TP TU s idx kt n t b (.cons v ty r) =
  ifVer E x v t (match ty.tp with
   | some TP'=>sq (rg [qd (t+v.nt) (.tmp s) TP,jk (t+v.nt+1) (.tmp (t+v.nt)),xB (t+v.nt+2) TU (.tmp (t+v.nt+1)) idx,qc n (.tmp (t+v.nt+2)) TP']::Ty.wc E x n (n+1) (t+v.nt+3) b ty)
   | none=>sq ((if ty.arr then wLoadArr TP TU (ty.T E) n s idx (t+v.nt) else yD TP TU (ty.T E) n s idx (t+v.nt))::Ty.wc E x n (n+1) (t+v.nt+4) b ty)) ::
  Flds.wc E x TP TU s (idx+1) kt (n+1+ty.wn) (t+v.nt+ty.h+ty.wt x) (b+ty.wb) r:=by cases v<;>first | rfl | cases h
set_option maxHeartbeats 1000000 in
theorem wok_cons (v:Ver) (ty:Ty) (r:Flds) (hvt:v.isTag=false) (hty:ty.WOk P E W0 sb) (hr':r.WOk P E W0 sb) (hrep:∀ cs B d,ty.Rep W0 sb B cs d->ty.tp=none->ty.arr=false->∃ u,cs=[u]):(Flds.cons v ty r).WOk P E W0 sb:=by
 intro G x ver fx L TP TU s idx off n t b B pb po m a w xs cs ds tags kt Q hok hs hsn hs1 hn ht hst hp hc hr hkx hb k
 have h1:=hs.one;have h2:=hs.nL;have h3:=hs.Lt
 simp only[Flds.okW,Bool.and_eq_true,beq_iff_eq] at hok
 obtain ⟨⟨hoff,hokt⟩,_,hokr⟩:=hok
 rw[show v.nxt m=m by cases v<;>first | rfl | cases hvt] at hokr
 cases ds with
 | nil=>exact absurd hr (by simp[Flds.Rep])
 | cons d ds =>
 simp only[Flds.Rep] at hr
 obtain ⟨hrt,hrr,_⟩:=hr
 rw[wn_cons hvt] at hn
 rw[wt_cons hvt] at ht
 simp only[Flds.wr,Ver.addTag_no hvt] at hb k
 rw[wc_cons hvt]
 -- the rest
 have hrest:∀ (part:List UInt8) a1 w1,part=(if v.has ver=true then ty.wr fx ver d else [])->Fr (KW L n t) a a1->WSt P E W0 G x ver fx a1 w1 (xs++part) →
   vc P (sq (Flds.wc E x TP TU s (idx+1) (kt.map (·.kw)) (n+1+ty.wn) (t+v.nt+ty.h+ty.wt x) (b+ty.wb) r)) Q a1 w1:=by
  intro part a1 w1 hpart hf hst1
  refine hr' G x ver fx L TP TU s (idx+1) (off+ty.size) (n+1+ty.wn) _ (b+ty.wb) B pb po m a1 w1 (xs++part) (cs.drop ty.size) ds tags kt Q hokr (hs.up zH zH zH) zH hs1 zH (by rw[hf.size];omega) hst1 (by rw[hf.slot s ⟨hs1,.inl hsn⟩];exact hp) (by have:=hc.drop ty.size;rwa [Nat.add_assoc] at this) hrr hkx ?_ ?_
  ·rw[hpart]
   simp only[List.length_append] at hb ⊢
   omega
  ·intro a2 w2 hf2 hst2
   refine k a2 w2 (hf.trans (hf2.mono (KW.mono zH zH))) ?_
   rw[hpart] at hst2
   simpa [List.append_assoc] using hst2
 refine vS (m_ver hvt (K:=KW L n t) hst.ver (by have:=hs.vs.1;omega) hs.kt zH ?_ ?_)
 ·intro hhas a0 hf0 he0
  have hst0:=hst.fr hs hf0 (he0 1 zH)
  have hp0:a0.eval (.tmp s)=.pointer (some ⟨pb,po,none⟩):=by rw[he0 s zH];exact hp
  have hsz0:=hf0.size
  have hpart:ty.wr fx ver d=(if v.has ver=true then ty.wr fx ver d else []):=by rw[if_pos hhas]
  have hbt:xs.length+(ty.wr fx ver d).length<=big:=by
   rw[hhas] at hb
   simp only[if_true,List.length_append] at hb
   omega
  have hct:qb W0 pb (po+off) (cs.take ty.size):=hc.take _
  have hpbW:=hc
  cases htp:ty.tp with
  | some TP' =>
   have hh:ty.h=3:=by simp[Ty.h,htp]
   simp only[hh] at ht hrest ⊢
   refine vX (rM ?_)
   refine qY (ad:=⟨pb,po,none⟩) zA ?_
   refine rF (b:=pb) (o:=po) zE hoff ?_
   refine rA (dn ?_)
   generalize hA:(((a0.put (some (t+v.nt)) (a0.eval (.tmp s))).put (some (t+v.nt+1)) (.pointer (some ⟨pb,po,none⟩))).put (some (t+v.nt+2)) (.pointer (some ⟨pb,po+off,none⟩)))=A
   have hAe:A.eval (.tmp (t+v.nt+2))=.pointer (some ⟨pb,po+off,none⟩):=by rw[← hA];exact zE
   have hA1:∀ k,k<t->A.eval (.tmp k)=a0.eval (.tmp k):=by intro k hk;rw[← hA];exact zE
   have hAs:A.tmps.size=a0.tmps.size:=by rw[← hA];simp only[zP]
   have hAf:Fr (KW L n t) a0 A:=by
    rw[← hA]
    exact (((Fr.refl _ _).put _ (hs.kt _ zH)).put _ (hs.kt _ zH)).put _ (hs.kt _ zH)
   have hf1:Fr (KW L n t) a (A.put (some n) (A.eval (.tmp (t+v.nt+2)))):=(hf0.trans hAf).put _ (by rintro ⟨_,h | h⟩<;>omega)
   have hst1:=hst.fr hs hf1 (by rw[qi _ _ _ _ zH,hA1 1 zH,he0 1 zH])
   refine hty G x ver fx L n (n+1) (t+v.nt+3) b B _ w xs (cs.take ty.size) d _ hokt (hs.up zH zH zH) zH zH zH (by rw[hf1.size];omega) hst1 ?_ hrt hbt ?_
   ·simp only[Ty.Holds,htp]
    exact ⟨pb,po+off,by rw[qD _ _ _ (by rw[hAs,hsz0];omega),hAe],hct⟩
   ·intro a2 w2 hf2 hst2
    exact hrest _ a2 w2 hpart (hf1.trans (hf2.mono (KW.mono zH zH))) hst2
  | none =>
   have hh:ty.h=4:=by simp[Ty.h,htp]
   simp only[hh] at ht hrest ⊢
   cases harr:ty.arr with
   | true =>
    simp only[if_true]
    obtain ⟨_,hagg,hz,hsz16,hcell⟩:=okW_arr (W0:=W0) (sb:=sb) hokt harr
    obtain ⟨z,hz,hzl⟩:=zeroAgg_inv hz
    obtain ⟨hl16,h1c⟩:=hcell _ _ _ hrt
    have hw:qb w pb (po+off) (cs.take ty.size):=by
     have:pb<W0.heap.size:=by
      have h0:=hct.get (i:=0) zH
      exact qo h0
     exact hct.below hst.below this
    refine vS (m_loadArr (K:=KW1 L n t) (z:=z) (cs:=cs.take ty.size) hp0 hoff (by rw[hl16];exact hagg) hz zH h1c hw (by rintro (h | h)<;>omega) (fun d hd=>by rintro (h | h)<;>omega) zH (by rw[hsz0];omega) ?_)
    intro a1 w1 q hf1' hq hqs hqc hg
    have hf1:Fr (KW L n t) a0 a1:=hf1'.mono (fun k hk=>hk.2)
    have hbw1:Below W0.heap.size w w1:=hg.below.mono hst.size
    have hst1:WSt P E W0 G x ver fx a1 w1 xs:=by
     have h1':a1.eval (.tmp 1)=a0.eval (.tmp 1):=hf1'.slot 1 (.inl zH)
     exact ⟨hst.below.trans hbw1,by rw[h1'];exact wd hst0.own hg,by rw[hf1.slot _ ⟨hs.vs.2,.inl hs.vs.1⟩];exact hst0.ver,fun f hh=>by rw[hf1.slot _ ⟨(hs.fl f hh).2,.inl (hs.fl f hh).1⟩];exact hst0.fl f hh⟩
    refine hty G x ver fx L n (n+1) (t+v.nt+4) b B a1 w1 xs (cs.take ty.size) d _ hokt (hs.up zH zH zH) zH zH zH (by rw[hf1.size,hsz0];omega) hst1 ?_ hrt hbt ?_
    ·simp only[Ty.Holds,htp,harr,if_true]
     exact ⟨q,hq,hqc⟩
    ·intro a2 w2 hf2 hst2
     exact hrest _ a2 w2 hpart ((hf0.trans hf1).trans (hf2.mono (KW.mono zH zH))) hst2
   | false =>
    simp only[Bool.false_eq_true,if_false]
    obtain ⟨hone,hsz1⟩:=okW_one hokt htp harr
    obtain ⟨u,hu⟩:=hrep _ _ _ hrt htp harr
    have hcu:W0.cell? ⟨pb,po+off,none⟩=some u:=by have:=hct 0 u (by rw[hu];rfl);simpa using this
    have hcw:w.cell? ⟨pb,po+off,none⟩=some u:=by rw[hst.below.cell (p:=⟨pb,po+off,none⟩) (qo hcu)];exact hcu
    refine vS (m_load (K:=KW1 L n t) hp0 hoff hone hcw (by rintro (h | h)<;>omega) (fun d hd=>by rintro (h | h)<;>omega) zH (by rw[hsz0];omega) ?_)
    intro a1 hf1' he1
    have hf1:Fr (KW L n t) a0 a1:=hf1'.mono (fun k hk=>hk.2)
    have hst1:WSt P E W0 G x ver fx a1 w xs:=by
     have h1':a1.eval (.tmp 1)=a0.eval (.tmp 1):=hf1'.slot 1 (.inl zH)
     exact hst0.fr hs hf1 h1'
    refine hty G x ver fx L n (n+1) (t+v.nt+4) b B a1 w xs (cs.take ty.size) d _ hokt (hs.up zH zH zH) zH zH zH (by rw[hf1.size,hsz0];omega) hst1 ?_ hrt hbt ?_
    ·simp only[Ty.Holds,htp,harr,Bool.false_eq_true,if_false]
     rw[hu,he1]
    ·intro a2 w2 hf2 hst2
     exact hrest _ a2 w2 hpart ((hf0.trans hf1).trans (hf2.mono (KW.mono zH zH))) hst2
 ·intro hhas a0 hf0 he0
  refine hrest [] a0 w (by rw[hhas];simp) hf0 ?_
  rw[List.append_nil]
  exact hst.fr hs hf0 (he0 1 zH)
theorem Scal.val_int {c:Scal} (h:c.isInt=true) (n:Int):c.val n=.int c.kind n:=by cases c<;>first | rfl | cases h
theorem Scal.wr_len (c:Scal) (n:Int):(c.wr n).length=c.width:=by cases c<;>simp[Scal.wr,Scal.width,qG]
theorem kw_k (E:Env) (TP TU:TypeId) (s idx k lb:Nat) (body:Nat->Nat->Nat->Nat->List Code) (wn wt wb:Nat) (ty:Ty):(ty.kw E TP TU s idx k lb body wn wt wb).k=k/\(ty.kw E TP TU s idx k lb body wn wt wb).askT=ty.kwA/\(ty.kw E TP TU s idx k lb body wn wt wb).casN=ty.kwN wn/\(ty.kw E TP TU s idx k lb body wn wt wb).casT=ty.kwT wt:=by
 cases ty<;>exact ⟨rfl,rfl,rfl,rfl⟩
theorem w_uv (H:EnvW P E sb.T) {x:Cx} {ver:Nat} {fx:Bool} {L n t k:Nat} {a:Act} {w:World} {xs:List UInt8} {Q:Exit->Act->World->Prop} (hu:E.wUvarint≠0) (hk:k<4294967296)
  (hs:WSl x L n t fx) (hsz:t+2<=a.tmps.size) (hst:WSt P E W0 G x ver fx a w xs) (hb:xs.length+(uvar k).length<=big)
  (kk:∀ a' w',Fr (KW L n t) a a'->WSt P E W0 G x ver fx a' w' (xs++uvar k)->Q .normal a' w'):vc P (kwUv E k t) Q a w:=by
 have h1:=hs.one;have h2:=hs.nL;have h3:=hs.Lt
 refine vR zS ?_
 refine rM ?_
 refine q8 (args:=#[a.eval (.tmp 1),.int .u32 (k:Int)]) ?_ (H.uvar hu k ⟨W0.heap.size,G⟩ w hk _ xs hst.own hst.size hb) ?_
 ·simp only[List.map_toArray,List.map_cons,List.map_nil,u32]
  exact zE
 intro v' w' hS
 refine rA (dn ?_)
 have hf:∀ v1 v2 v3,Fr (KW L n t) a (((a.put (some t) v1).put (some (t+1)) v2).put (some 1) v3):=fun _ _ _=>(((Fr.refl _ a).put _ (hs.kt _ (Nat.le_refl _))).put _ (hs.kt _ zH)).put _ hs.k1
 exact kk _ w' (hf _ _ _) (hst.step hs (hf _ _ _) zE hS)
theorem w_add {L n t U k:Nat} {a:Act} {w:World} {ns:List Nat} {Q:Exit->Act->World->Prop} (hrow:xe P E.tU32s E.tW 1=true) (hL:L<=t) (hn:n+1<=L) (hsz:t+3<=a.tmps.size) (hU:U<=w.heap.size) (hl:ns.length+1<=big)
  (hown:w.ownsRow U E.tW 1 (a.eval (.tmp n)) ns.length (ns.map u32v))
  (kk:∀ a' w',Fr (KW1 L n t) a a'->w'.ownsRow U E.tW 1 (a'.eval (.tmp n)) (ns++[k]).length ((ns++[k]).map u32v)->Below U w w'->Q .normal a' w'):vc P (kwAdd E k n t) Q a w:=by
 refine vR zS ?_
 refine rM ?_
 refine xz (s:=1) (vs:=[u32v k]) hrow (by simp[xg,u32,u32v]) rfl (by intro v hv;simp only[List.mem_singleton] at hv;subst hv;rfl) zH zH ?_
 refine xc (sz:=1) (m:=1) (U:=U) (v:=a.eval (.tmp n)) (n:=ns.length) (xs:=ns.map u32v) (u:=.slice (some ⟨w.heap.size,0,none⟩) 1 1) (news:=[u32v k]) hrow zE zE (hown.alloc _) (by simp;omega) ?_ hl ?_
 ·refine xW (rB hrow) ?_ rfl (by intro u hu;simp only[List.mem_singleton] at hu;subst hu;rfl)
  intro j u hu
  rw[Nat.zero_add]
  exact qs w _ E.tW (by simpa [u32v,Value.cells] using hu)
 intro v' w' hown' hbel
 refine rA (dn ?_)
 refine kk _ w' ?_ ?_ (((Below.refl U w).alloc hU _).trans hbel)
 ·exact ((((Fr.refl _ a).put _ (KW1.kt zH hL _ (Nat.le_refl _))).put _ (KW1.kt zH hL _ zH)).put _ (KW1.kt zH hL _ zH)).put _ (by rintro (h | h)<;>omega)
 ·rw[List.map_append,List.length_append]
  have:∀ A:Act,n<A.tmps.size->A.tmps.size=a.tmps.size->(A.put (some n) v').eval (.tmp n)=v':=fun A h _=>qD _ _ _ h
  simp (disch:=(try simp only[sP]);omega) only[eS,eN]
  exact hown'
set_option maxHeartbeats 1000000 in
theorem kx_scal (H:EnvW P E sb.T) {x:Cx} {ver:Nat} {fx:Bool} {TP TU:TypeId} {s idx k lb off pb po B wn wt wb:Nat} {body:Nat->Nat->Nat->Nat->List Code} {c:Scal} {df:Int} {cs:List Value} {d:D} (hi:c.isInt=true) (hk:k<4294967296) (hrow:xe P E.tU32s E.tW 1=true) (hu:fx=true->E.wUvarint≠0) (hw:E.wScal c≠0) (hone:qQ P (E.tScal c)=true)
  (hoff:qk P TU idx=some off) (hc:qb W0 pb (po+off) cs) (hr:(Ty.scal c df).Rep W0 sb B cs d) :
  KX.ok P E W0 x ver fx s pb po ⟨(Ty.scal c df).kw E TP TU s idx k lb body wn wt wb,if fx && !(Ty.scal c df).isD d then some ((Ty.scal c df).wr fx ver d) else none⟩:=by
 cases d with
 | int mv =>
  simp only[Ty.Rep] at hr
  obtain ⟨rfl,hmv⟩:=hr
  have hcell:W0.cell? ⟨pb,po+off,none⟩=some (c.val mv):=by have:=hc 0 _ rfl;simpa using this
  refine ⟨?_,?_⟩
  ·intro hfx L n t U a w ns Q hL hn hs hsz hp hb hU hl hown kk
   subst hfx
   simp only[Ty.kw,Ty.kwA] at hsz
   simp only[Ty.kw,Ty.isD,Bool.true_and] at kk ⊢
   have hcw:w.cell? ⟨pb,po+off,none⟩=some (c.val mv):=by rw[hb.cell (p:=⟨pb,po+off,none⟩) (qo hcell)];exact hcell
   refine vX (rM ?_)
   refine qY (ad:=⟨pb,po,none⟩) zA ?_
   refine rF (b:=pb) (o:=po) zE hoff ?_
   refine rL (b:=pb) (o:=po+off) zE hone hcw ?_
   refine r_neq (k:=c.kind) (m:=mv) (n:=df) (by simp (disch:=(try simp only[sP]);omega) only[eV,Scal.val_int hi]) (by rw[xg,Scal.val_int hi]) ?_
   refine dn ?_
   generalize hA:Act.put _ (some (t+4)) _=A
   have hfA:Fr (KW1 L n t) a A:=by
    subst hA
    exact (((((Fr.refl _ a).put _ (KW1.kt zH hL _ (Nat.le_refl _))).put _ (KW1.kt zH hL _ zH)).put _ (KW1.kt zH hL _ zH)).put _ (KW1.kt zH hL _ zH)).put _ (KW1.kt zH hL _ zH)
   have hAc:A.eval (.tmp (t+4))=.bool (mv != df):=by subst hA;exact zE
   have hAn:A.eval (.tmp n)=a.eval (.tmp n):=by subst hA;exact zE
   have hzA:=hfA.size
   clear hA
   refine vS (vC (t:=mv != df) hAc ?_ ?_)
   ·intro hne
    have hne':(mv==df)=false:=by simpa using hne
    refine w_add (L:=L) hrow zH hn (by rw[hzA];omega) hU hl (by rw[hAn];exact hown) ?_
    intro a' w' hf' hown' hb'
    refine vN (kk a' w' (hfA.trans (hf'.mono (KW1.mono zH))) ?_ hb')
    simpa [hne'] using hown'
   ·intro heq
    have heq':(mv==df)=true:=by
     have:mv=df:=by simpa using heq
     simp[this]
    refine vK (vN (kk A w hfA ?_ (Below.refl _ _)))
    simpa [heq',hAn] using hown
  ·intro pl hpl G L n t b a w xs Q hs hsn hs1 hn ht hst hp hb kk
   have h1:=hs.one;have h2:=hs.nL;have h3:=hs.Lt
   simp only[Ty.wr] at hpl
   by_cases hcnd:(fx && !(Ty.scal c df).isD (.int mv))=true
   ·rw[if_pos hcnd] at hpl
    simp only[Bool.and_eq_true] at hcnd
    obtain ⟨hfx,_⟩:=hcnd
    simp only[Option.some.injEq] at hpl
    subst hpl
    simp only[Ty.kw,Ty.kwN] at hn
    simp only[Ty.kw,Ty.kwT] at ht
    simp only[Ty.kw] at hb kk ⊢
    have hlen:=c.wr_len mv
    simp only[qT,List.length_append] at hb
    rw[hlen] at hb
    have hwd:c.width<4294967296:=by cases c<;>decide
    refine vS (m_load (K:=KW1 L n t) hp hoff hone (by rw[hst.below.cell (p:=⟨pb,po+off,none⟩) (qo hcell)];exact hcell) (by rintro (h | h)<;>omega) (fun d hd=>by rintro (h | h)<;>omega) zH zH ?_)
    intro a1 hf1' he1
    have hf1:Fr (KW L n t) a a1:=hf1'.mono (fun k hk=>hk.2)
    have hst1:WSt P E W0 G x ver fx a1 w xs:=hst.fr hs hf1 (hf1'.slot 1 (.inl zH))
    have hs':WSl x L (n+1) (t+4) fx:=hs.up zH zH zH
    refine vS (w_uv H (hu hfx) hk hs' (by rw[hf1.size];omega) hst1 zH ?_)
    intro a2 w2 hf2 hst2
    refine vS (w_uv H (hu hfx) hwd (hs'.up (Nat.le_refl _) zH zH) (by rw[hf2.size,hf1.size];omega) hst2 (by simp only[List.length_append];omega) ?_)
    intro a3 w3 hf3 hst3
    have hs3:WSl x L (n+1) (t+8) fx:=hs'.up (Nat.le_refl _) zH zH
    refine vS (w_app hs3 (v:=n) zH (by rw[hf3.size,hf2.size,hf1.size];omega) hst3 (by rw[hf3.slot n ⟨by omega,.inl zH⟩,hf2.slot n ⟨by omega,.inl zH⟩];exact he1) (H.scal c hw mv _ _ hmv) (by simp only[List.length_append];omega) ?_)
    intro a4 w4 hf4 hst4
    refine vN (kk a4 w4 (((hf1.trans (hf2.mono (KW.mono zH zH))).trans (hf3.mono (KW.mono zH zH))).trans (hf4.mono (KW.mono zH zH))) ?_)
    simp only[qT]
    rw[hlen]
    simpa [List.append_assoc] using hst4
   ·rw[if_neg hcnd] at hpl
    cases hpl
 | _=>exact absurd hr (by simp[Ty.Rep])
theorem Flds.okW_uv {x:Cx}:∀ (fs:Flds) {TU:TypeId} {idx off m:Nat},fs.okW P E x TU idx off m=true->x.fl.isSome=true->E.wUvarint≠0
 | .nil tg,TU,idx,off,m,h,hf=>by
  obtain ⟨f,hf⟩:=Option.isSome_iff_exists.1 hf
  simp only[Flds.okW,hf,Option.isNone_some,Bool.false_or,Bool.and_eq_true,bne_iff_ne,ne_eq] at h
  exact h.2
 | .cons v t r,TU,idx,off,m,h,hf=>by
  simp only[Flds.okW,Bool.and_eq_true] at h
  exact Flds.okW_uv r h.2.2 hf
theorem wok_tag (H:EnvW P E sb.T) (HI:EnvI P E) (v:Ver) (ty:Ty) (r:Flds) (hvt:v.isTag=true) (hty:ty.WOk P E W0 sb) (hr':r.WOk P E W0 sb):(Flds.cons v ty r).WOk P E W0 sb:=by
 cases v with
 | tag kn lb =>
  intro G x ver fx L TP TU s idx off n t b B pb po m a w xs cs ds tags kt Q hok hs hsn hs1 hn ht hst hp hc hr hkx hb k
  simp only[Flds.okW,Ver.okK,Ver.nxt,Bool.and_eq_true,beq_iff_eq,decide_eq_true_eq,bne_iff_ne,ne_eq] at hok
  obtain ⟨⟨hoff,hokt⟩,⟨⟨⟨⟨⟨⟨hmk,hk32⟩,hfl⟩,hrow⟩,hone⟩,hneq⟩,htyp⟩,hokr⟩:=hok
  cases ds with
  | nil=>exact absurd hr (by simp[Flds.Rep])
  | cons d ds =>
  simp only[Flds.Rep,Ver.tagOk] at hr
  obtain ⟨hrt,hrr,htag⟩:=hr
  simp only[Flds.wn] at hn
  simp only[Flds.wt] at ht
  simp only[Flds.wr,Ver.has,Bool.false_eq_true,if_false,List.nil_append,Ver.addTag] at hb k
  simp only[Flds.wc]
  obtain ⟨hkk,hkA,hkN,hkT⟩:=kw_k E TP TU s idx kn lb (fun v n t b=>Ty.wc E x v n t b ty) ty.wn (ty.wt x) ty.wb ty
  have he:KX.ok P E W0 x ver fx s pb po ⟨ty.kw E TP TU s idx kn lb (fun v n t b=>Ty.wc E x v n t b ty) ty.wn (ty.wt x) ty.wb,if fx && !ty.isD d then some (ty.wr fx ver d) else none⟩:=by
   cases ty with
   | scal c df =>
    simp only[Ty.okW,Bool.and_eq_true,bne_iff_ne,ne_eq] at hokt
    exact kx_scal H (B:=B) htyp hk32 hrow (fun _=>Flds.okW_uv r hokr hfl) hokt.1 hokt.2 hoff (hc.take _) hrt
   | _=>cases htyp
  have hkx':KXs P E W0 x ver fx s pb po (kn+1) (kt++[⟨ty.kw E TP TU s idx kn lb (fun v n t b=>Ty.wc E x v n t b ty) ty.wn (ty.wt x) ty.wb,if fx && !ty.isD d then some (ty.wr fx ver d) else none⟩]) tags:=by
   refine ⟨fun e h=>?_,fun e h=>?_,?_,fun e h=>?_,fun _=>⟨hfl,hrow,hone,hneq,fun e h=>?_⟩⟩
   ·rcases List.mem_append.1 h with h | h
    ·exact hkx.ok e h
    ·simp only[List.mem_singleton] at h;subst h;exact he
   ·rcases List.mem_append.1 h with h | h
    ·have:=hkx.lt e h;omega
    ·simp only[List.mem_singleton] at h;subst h;simp only;omega
   ·refine List.pairwise_append.2 ⟨hkx.asc,List.pairwise_singleton _ _,fun e h f hf=>?_⟩
    simp only[List.mem_singleton] at hf
    subst hf
    have:=hkx.lt e h
    simp only
    omega
   ·rcases List.mem_append.1 h with h | h
    ·exact hkx.beh e h
    ·simp only[List.mem_singleton] at h;subst h;simp only;rw[hkk];exact htag
   ·rcases List.mem_append.1 h with h | h
    ·exact (hkx.fl (List.ne_nil_of_mem h)).2.2.2.2 e h
    ·simp only[List.mem_singleton] at h;subst h;simp only;omega
  have hkn:qB (kt++[⟨ty.kw E TP TU s idx kn lb (fun v n t b=>Ty.wc E x v n t b ty) ty.wn (ty.wt x) ty.wb,if fx && !ty.isD d then some (ty.wr fx ver d) else none⟩])++tags=if fx && !ty.isD d then qv kn (ty.wr fx ver d) (qB kt++tags) else qB kt++tags:=by
   rw[knTags_snoc]
   by_cases h:(fx && !ty.isD d)=true
   ·simp only[if_pos h,hkk]
    rw[ya _ _ _ _ (fun y hy=>by obtain ⟨e,h1,h2,_⟩:=knTags_mem hy;have:=hkx.lt e h1;omega) htag]
    simp
   ·simp only[if_neg h,List.append_nil]
  have hgo:=hr' G x ver fx L TP TU s (idx+1) (off+ty.size) n t b B pb po (kn+1) a w xs (cs.drop ty.size) ds tags _ Q hokr hs hsn hs1 (by rw[List.map_append,List.map_cons,List.map_nil,hkN];exact hn) (by rw[List.map_append,List.map_cons,List.map_nil,hkA,hkT];exact ht) hst hp (by have:=hc.drop ty.size;rwa [Nat.add_assoc] at this) hrr hkx' (by rw[hkn];exact hb) (by rw[hkn];exact k)
  rw[List.map_append,List.map_cons,List.map_nil] at hgo
  exact hgo
 | _=>cases hvt
end
end Go.Km
namespace Go.Km
open Go Go.RowKit
attribute [local irreducible] vc rO_ qz
section
variable {P : Program} {E : Env} {W0 : World} {sb : Sb} {G : Nat → Option Obj}
theorem wok_struct (TP TU:TypeId) (FD:FuncId) (fs:Flds) (h:fs.WOk P E W0 sb):(Ty.struct TP TU FD fs).WOk P E W0 sb:=by
 intro G x ver fx L v n t b B a w xs cs d Q hok hs hv hv1 hn ht hst hh hr hb k
 cases d with
 | obj ds tags =>
  simp only[Ty.Rep] at hr
  simp only[Ty.Holds,Ty.tp] at hh
  obtain ⟨pb,po,hp,hc⟩:=hh
  simp only[Ty.wr] at hb k
  simp only[Ty.wc]
  exact h G x ver fx L TP TU v 0 0 n t b B pb po 0 a w xs cs ds tags [] Q hok hs hv hv1 hn ht hst hp (by simpa using hc) hr KXs.nil hb k
 | _=>exact absurd hr (by simp[Ty.Rep])
theorem w_lit {x:Cx} {ver:Nat} {fx:Bool} {L n t:Nat} {a:Act} {w:World} {xs:List UInt8} {z:UInt8} {c:Int} {Q:Exit->Act->World->Prop} (hB:xe P E.tB E.tU8 1=true) (hc:Value.int .u8 c=bv z)
  (hs:WSl x L n t fx) (hsz:t+3<=a.tmps.size) (hst:WSt P E W0 G x ver fx a w xs) (hb:xs.length+1<=big)
  (k:∀ a' w',Fr (KW L n t) a a'->WSt P E W0 G x ver fx a' w' (xs++[z])->Q .normal a' w') :
  vc P (rg [qd t (.tmp 1) E.tB,zb (t+1) E.tB 1 #[(0,.const (.int .u8 c))],xH (t+2) .append #[.tmp t,.tmp (t+1)] #[E.tB,E.tB] E.tB,qc 1 (.tmp (t+2)) E.tB]) Q a w:=by
 have h1:=hs.one;have h2:=hs.nL;have h3:=hs.Lt
 have hsize:=hst.size
 refine vR zS ?_
 refine rM ?_
 refine xz (s:=1) (vs:=[bv z]) hB (by simp[xg,hc]) rfl (by intro v hv;simp only[List.mem_singleton] at hv;subst hv;rfl) zH zH ?_
 refine jz (sz:=1) (m:=1) (U:=⟨W0.heap.size,G⟩) (v:=a.eval (.tmp 1)) (n:=xs.length) (xs:=xs.map bv) (u:=.slice (some ⟨w.heap.size,0,none⟩) 1 1) (news:=[bv z]) hB zE zE (hst.own.alloc _) (by simp;omega) ?_ hb ?_
 ·refine xW (rB hB) ?_ rfl (xm [z])
  intro j u hu
  rw[Nat.zero_add]
  exact qs w _ E.tU8 (by simpa [bv,Value.cells] using hu)
 intro v' w' hown hbel
 refine rA (dn ?_)
 have hf:∀ v1 v2 v3 v4,Fr (KW L n t) a ((((a.put (some t) v1).put (some (t+1)) v2).put (some (t+2)) v3).put (some 1) v4):=fun v1 v2 v3 v4 =>
  ((((Fr.refl _ a).put _ (hs.kt t (Nat.le_refl _))).put _ (hs.kt _ zH)).put _ (hs.kt _ zH)).put _ hs.k1
 refine k _ w' (hf _ _ _ _) (hst.step hs (hf _ _ _ _) (v':=v') zE ⟨?_,?_⟩)
 ·rw[List.map_append,List.length_append]
  exact hown
 ·exact ((Below.refl W0.heap.size w).alloc hsize _).trans hbel
theorem r_eqNilPW {d T x ty p af g ad} {e:TypeId} {a:Act} {w:World} {r:List Oper} {Q:Exit->Act->World->Prop} (hT:P.underlying T=some (.pointer e)) (hx:a.eval x=.pointer ad) (h:rO_ P Q r (a.put (some d) (.bool ad.isNone)) w) :
  rO_ P Q (⟨some d,.binOp .eql T x (.const (.pointer none)) T,ty,p,af,g⟩::r) a w:=by
 refine st ?_
 have hb:(binOp .eql T (.pointer ad) (.pointer none)).run P w=.ok (.bool ad.isNone) w:=by
  have h0:∀ k:Nat,(Op.equalIn (k+1) T (.pointer ad) (.pointer none)).run P w=.ok ad.isNone w:=fun k=>by
   cases ad<;>simp[Op.equalIn,run_underlying hT]
  simp only[binOp]
  simp[Op.equal,Op.maxDepth,h0 9999]
 have hg:(eqGuard .eql T x (.const (.pointer none)) (.pointer ad) (.pointer none))=pure ():=by cases ad<;>rfl
 simp only[Oper.wp,execOp,hx,xg,hg,hb,Sem.run_bind,Sem.run_pure,Result.andThen_ok,Oper.upon_value]
 exact h
theorem wok_nstruct (TP TU:TypeId) (FD:FuncId) (fs:Flds) (PP:TypeId) (h:fs.WOk P E W0 sb):(Ty.nstruct TP TU FD fs PP).WOk P E W0 sb:=by
 intro G x ver fx L v n t b B a w xs cs d Q hok hs hv hv1 hn ht hst hh hr hb k
 simp only[Ty.okW,Bool.and_eq_true] at hok
 obtain ⟨⟨⟨hB,hT⟩,_⟩,hF⟩:=hok
 obtain ⟨te,hT⟩:=wQ hT
 have h1:=hs.one;have h2:=hs.nL;have h3:=hs.Lt
 simp only[Ty.wn] at hn
 simp only[Ty.wt] at ht
 have hh':cs=[a.eval (.tmp v)]:=by simpa [Ty.Holds,Ty.tp,Ty.arr] using hh
 subst hh'
 simp only[Ty.wc]
 have hf2:∀ u v2,Fr (KW L n t) a ((a.put (some t) u).put (some (t+1)) v2):=fun u v2=>((Fr.refl _ a).put _ (hs.kt t (Nat.le_refl _))).put _ (hs.kt _ zH)
 cases d with
 | list o =>
  rcases o with _ | l
  ·have hpv:a.eval (.tmp v)=.pointer none:=by simpa [Ty.Rep] using hr
   simp only[Ty.wr] at hb k
   refine vS (vX (rM ?_))
   refine r_eqNilPW (ad:=none) hT zA ?_
   refine dn ?_
   refine vS (vC (t:=true) zA (fun _=>?_) (fun h=>by cases h))
   refine w_lit (z:=255) (n:=n) (L:=L) (t:=t+2) hB rfl (hs.up (Nat.le_refl _) hs.nL zH) (by rw[(hf2 _ _).size];omega) (hst.fr hs (hf2 _ _) zE) (by simpa using hb) ?_
   exact fun a' w' hf hst'=>vN (vN (k a' w' ((hf2 _ _).trans (hf.mono (KW.mono (Nat.le_refl _) zH))) hst'))
  ·rcases l with _ | ⟨d0,_ | ⟨d1,r⟩⟩
   ·exact absurd hr (by simp[Ty.Rep])
   ·cases d0 with
    | obj ds tags =>
     simp only[Ty.Rep] at hr
     obtain ⟨q,c,hcv,hBq,hq,hcl,hcc,hrep⟩:=hr
     have hpv:a.eval (.tmp v)=.pointer (some ⟨q,0,none⟩):=by simpa using hcv
     simp only[Ty.wr,List.length_cons] at hb k
     refine vS (vX (rM ?_))
     refine r_eqNilPW (ad:=some ⟨q,0,none⟩) hT zA ?_
     refine dn ?_
     refine vS (vC (t:=false) zA (fun h=>by cases h) (fun _=>?_))
     refine vS (w_lit (z:=1) (n:=n) (L:=L) (t:=t+5) hB rfl (hs.up (Nat.le_refl _) hs.nL zH) (by rw[(hf2 _ _).size];omega) (hst.fr hs (hf2 _ _) zE) zH ?_)
     intro a' w' hf hst'
     have hf':Fr (KW L n t) a a':=(hf2 _ _).trans (hf.mono (KW.mono (Nat.le_refl _) zH))
     refine h G x ver fx L TP TU v 0 0 n (t+8) b (q+1) q 0 0 a' w' (xs++[1]) c ds tags [] _ hF (hs.up (Nat.le_refl _) hs.nL zH) hv hv1 hn (by rw[hf'.size];simp only[List.map_nil];omega) hst' (by rw[hf'.slot v ⟨hv1,.inl hv⟩];exact hpv) hcc hrep KXs.nil (by simp only[qB,List.filterMap_nil,List.nil_append,List.length_append,List.length_cons,List.length_nil];omega) ?_
     intro a2 w2 hf3 hst2
     refine vN (vN (k a2 w2 (hf'.trans (hf3.mono (KW.mono (Nat.le_refl _) zH))) ?_))
     simp only[qB,List.filterMap_nil,List.nil_append] at hst2
     rw[List.append_assoc] at hst2
     exact hst2
    | _=>exact absurd hr (by simp[Ty.Rep])
   ·exact absurd hr (by cases d0<;>simp[Ty.Rep])
 | _=>exact absurd hr (by simp[Ty.Rep])
def zz (null:Bool) (fx:Bool) (o:Option (List D)):List UInt8:=if null&&o.isNone then j7 fx else zg fx (o.getD []).length
theorem wr_list (fx:Bool) (ver:Nat) (TS:TypeId) (null:Option Nat) (e:Ty) (o:Option (List D)) :
  (Ty.list TS null e).wr fx ver (.list o)=zz null.isSome fx o++((o.getD []).map fun d=>e.wr fx ver d).flatten:=by
 cases o with
 | none=>cases null<;>simp[Ty.wr,zz]
 | some l=>simp[Ty.wr,zz]
theorem w_lens (H:EnvW P E sb.T) {x:Cx} {ver:Nat} {fx:Bool} {TS e:TypeId} {sz L v n t len cap:Nat} {ad:Option Addr} {a:Act} {w:World} {xs:List UInt8} {o:Option (List D)} {null:Bool} {Q:Exit->Act->World->Prop}
  (hok:(if null then x.ok E.wCNLen E.wNLen else x.ok E.wCLen E.wLen)=true) (hT:xu P TS=some (e,sz))
  (hs:WSl x L n t fx) (hv:v<n) (hv1:v≠1) (hsz:t+x.nt (if null then 6 else 4)<=a.tmps.size) (hst:WSt P E W0 G x ver fx a w xs) (ha:a.eval (.tmp v)=.slice ad len cap)
  (hlen:len=(o.getD []).length) (had:ad.isNone=o.isNone) (hbig:len<=big) (hb:xs.length+(zz null fx o).length<=big)
  (k:∀ a' w',Fr (KW L n t) a a'->WSt P E W0 G x ver fx a' w' (xs++zz null fx o)->Q .normal a' w') :
  vc P (if null=true then kE E x t 6 (wNLens E E.wCNLen TS v) (wNLens E E.wNLen TS v) else kE E x t 4 (wLens E E.wCLen TS v) (wLens E E.wLen TS v)) Q a w:=by
 have h1:=hs.one;have h2:=hs.nL;have h3:=hs.Lt
 cases null with
 | true =>
  simp only[if_true] at hok hsz ⊢
  obtain ⟨hG,hF⟩:=Cx.ok_inv hok
  have hd:∀ f,zz true f o=if ad.isNone=true then j7 f else zg f len:=by
   intro f
   rw[had,hlen]
   cases o<;>simp[zz]
  rw[hd] at hb
  refine m_flex (K:=KW L n t) (fx:=fx) (fun f hf=>⟨hst.fl f hf,by have:=(hs.fl f hf).1;omega⟩) hs.no hs.kt zH hsz ?_ ?_
  ·intro hfx a' t' hf ht' hsz' he
   subst hfx
   have hs':=hs.up (Nat.le_refl n) hs.nL ht'
   have hst':=hst.fr hs hf (he 1 zH)
   refine m_nlens (K:=KW L n t') rfl (by rw[he v zH];exact ha) hT (H.cnlen (hF _ hs.no rfl) len ad.isNone _ _ hbig _ xs hst'.own hst'.size hb) hs'.kt hs'.k1 zH zH (by rw[hf.size];exact hsz') ?_
   intro a2 v2 w2 hf2 e2 hS
   rw[← hd] at hS
   exact k a2 w2 (hf.trans (hf2.mono (KW.mono (Nat.le_refl _) ht'))) (hst'.step hs' hf2 e2 hS)
  ·intro hfx a' t' hf ht' hsz' he
   subst hfx
   have hs':=hs.up (Nat.le_refl n) hs.nL ht'
   have hst':=hst.fr hs hf (he 1 zH)
   refine m_nlens (K:=KW L n t') rfl (by rw[he v zH];exact ha) hT (H.nlen hG len ad.isNone _ _ hbig _ xs hst'.own hst'.size hb) hs'.kt hs'.k1 zH zH (by rw[hf.size];exact hsz') ?_
   intro a2 v2 w2 hf2 e2 hS
   rw[← hd] at hS
   exact k a2 w2 (hf.trans (hf2.mono (KW.mono (Nat.le_refl _) ht'))) (hst'.step hs' hf2 e2 hS)
 | false =>
  simp only[Bool.false_eq_true,if_false] at hok hsz ⊢
  obtain ⟨hG,hF⟩:=Cx.ok_inv hok
  have hd:∀ f,zz false f o=zg f len:=by
   intro f
   rw[hlen]
   simp[zz]
  rw[hd] at hb
  refine m_flex (K:=KW L n t) (fx:=fx) (fun f hf=>⟨hst.fl f hf,by have:=(hs.fl f hf).1;omega⟩) hs.no hs.kt zH hsz ?_ ?_
  ·intro hfx a' t' hf ht' hsz' he
   subst hfx
   have hs':=hs.up (Nat.le_refl n) hs.nL ht'
   have hst':=hst.fr hs hf (he 1 zH)
   refine m_lens (K:=KW L n t') rfl (by rw[he v zH];exact ha) hT (H.clen (hF _ hs.no rfl) len _ _ hbig _ xs hst'.own hst'.size hb) hs'.kt hs'.k1 zH zH (by rw[hf.size];exact hsz') ?_
   intro a2 v2 w2 hf2 e2 hS
   rw[← hd] at hS
   exact k a2 w2 (hf.trans (hf2.mono (KW.mono (Nat.le_refl _) ht'))) (hst'.step hs' hf2 e2 hS)
  ·intro hfx a' t' hf ht' hsz' he
   subst hfx
   have hs':=hs.up (Nat.le_refl n) hs.nL ht'
   have hst':=hst.fr hs hf (he 1 zH)
   refine m_lens (K:=KW L n t') rfl (by rw[he v zH];exact ha) hT (H.len hG len _ _ hbig _ xs hst'.own hst'.size hb) hs'.kt hs'.k1 zH zH (by rw[hf.size];exact hsz') ?_
   intro a2 v2 w2 hf2 e2 hS
   rw[← hd] at hS
   exact k a2 w2 (hf.trans (hf2.mono (KW.mono (Nat.le_refl _) ht'))) (hst'.step hs' hf2 e2 hS)
theorem jS {α:Type} (l:List D) (f:D->List α) (i:Nat) (h:i<l.length):((l.take (i+1)).map f).flatten=((l.take i).map f).flatten++f l[i]:=by
 rw[List.take_succ_eq_append_getElem h,List.map_append,List.flatten_append]
 simp
theorem yx {α:Type} (l:List D) (f:D->List α) (i:Nat):((l.take i).map f).flatten.length<=((l.map f).flatten).length:=by
 have:l=l.take i++l.drop i:=(List.take_append_drop i l).symm
 conv=>rhs;rw[this]
 rw[List.map_append,List.flatten_append,List.length_append]
 omega
set_option maxHeartbeats 1000000 in
theorem wok_list (H:EnvW P E sb.T) (TS:TypeId) (null:Option Nat) (e:Ty) (he:e.WOk P E W0 sb) (hrep:∀ cs B d,e.Rep W0 sb B cs d->e.tp=none->e.arr=false->∃ u,cs=[u]):(Ty.list TS null e).WOk P E W0 sb:=by
 intro G x ver fx L v n t b B a w xs cs d Q hok hs hv hv1 hn ht hst hh hr hb k
 have h1:=hs.one;have h2:=hs.nL;have h3:=hs.Lt
 simp only[Ty.okW,Bool.and_eq_true,Bool.not_eq_true'] at hok
 obtain ⟨⟨⟨⟨hfn,hTS⟩,hslice⟩,hearr⟩,hoke⟩:=hok
 obtain ⟨te,hT⟩:=sliceB_inv hslice
 have hh':cs=[a.eval (.tmp v)]:=by simpa [Ty.Holds,Ty.tp,Ty.arr] using hh
 subst hh'
 simp only[Ty.wn] at hn
 simp only[Ty.wt] at ht
 cases d with
 | list o =>
  rw[wr_list] at hb k
  -- what the slot holds
  obtain ⟨ad,cap,ha,had,hbig,hel⟩:∃ ad cap,a.eval (.tmp v)=.slice ad (o.getD []).length cap/\ad.isNone=o.isNone/\(o.getD []).length<=big ∧
    ∀ (i:Nat) (h:i<(o.getD []).length),∃ q,ad=some ⟨q,0,none⟩/\q<W0.heap.size/\∃ c:List Value,c.length=e.size/\qb W0 q (i*e.size) c/\e.Rep W0 sb (q+1) c (o.getD [])[i]:=by
   cases o with
   | none =>
    simp only[Ty.Rep,List.cons.injEq,and_true] at hr
    exact ⟨none,0,hr,rfl,Nat.zero_le _,fun i h=>by simp at h⟩
   | some l =>
    simp only[Ty.Rep] at hr
    obtain ⟨q,cap,hv',hB,hq,hbg,hall⟩:=hr
    simp only[List.cons.injEq,and_true] at hv'
    refine ⟨some ⟨q,0,none⟩,cap,hv',rfl,hbg,fun i h=>⟨q,rfl,hq,?_⟩⟩
    exact hall i _ (List.getElem?_eq_getElem h)
  generalize hl:o.getD []=l at *
  have hh0:(zz null.isSome fx o).length<=(zz null.isSome fx o++(l.map fun d=>e.wr fx ver d).flatten).length:=by simp
  simp only[Ty.wc]
  generalize ht1:t+x.nt (if null.isSome=true then 6 else 4)=t1 at *
  have htt1:t<=t1:=by omega
  refine vS (w_lens H hfn hT hs hv hv1 (by rw[ht1];omega) hst ha (by rw[hl]) had hbig zH ?_)
  intro a1 w1 hf1 hst1
  have hav1:a1.eval (.tmp v)=.slice ad l.length cap:=by rw[hf1.slot v ⟨hv1,.inl hv⟩];exact ha
  have hs1:WSl x L n t1 fx:=hs.up (Nat.le_refl _) hs.nL htt1
  -- the state at the head of round i
  let I:Nat->Act->World->Prop:=fun i a' w'=>Fr (KW L n t) a a'/\WSt P E W0 G x ver fx a' w' (xs++zz null.isSome fx o++((l.take i).map fun d=>e.wr fx ver d).flatten)
  have stab:∀ i a' a2 w',I i a' w'->a2.tmps.size=a'.tmps.size->a2.defers=a'.defers->(∀ k,k<t1->a2.eval (.tmp k)=a'.eval (.tmp k))->I i a2 w':=by
   rintro i a' a2 w' ⟨hfr,hw⟩ hsz hdf hsl
   refine ⟨⟨hsz.trans hfr.size,hdf.trans hfr.defers,fun k hk=>?_⟩,⟨hw.below,by rw[hsl 1 zH];exact hw.own,by rw[hsl x.vs (by have:=hs.vs.1;omega)];exact hw.ver,fun f hf=>by rw[hsl f (by have:=(hs.fl f hf).1;omega)];exact hw.fl f hf⟩⟩
   rw[hsl k (by have:=hk.2;omega)]
   exact hfr.slot k hk
  have hI0:I 0 a1 w1:=⟨hf1,by simpa using hst1⟩
  have hdone:∀ a' w',I l.length a' w'->vc P (sq []) Q a' w':=by
   rintro a' w' ⟨hfr,hw⟩
   refine vN (k a' w' hfr ?_)
   rw[List.take_length] at hw
   simpa [List.append_assoc] using hw
  have hsize1:a1.tmps.size=a.tmps.size:=hf1.size
  refine vS ?_
  cases htp:e.tp with
  | some TP' =>
   have hh:e.h=3:=by simp[Ty.h,htp]
   rw[hh] at ht
   refine m_wloop hav1 hT (by unfold big at hbig;omega) zH zH zH I stab hI0 ?_ hdone
   intro i a2 w2 hi ⟨hfr2,hw2⟩ hcnt hsz2 ht02
   obtain ⟨q,rfl,hq,c,hcl,hcc,hrc⟩:=hel i hi
   have hav2:a2.eval (.tmp v)=.slice (some ⟨q,0,none⟩) l.length cap:=by rw[hfr2.slot v ⟨hv1,.inl hv⟩];exact ha
   refine vX (rM (rA (dn (vX (rM (rM ?_))))))
   refine qA (j:=i) (k:=.i64) (b:=q) (o:=0) (len:=l.length) (cap:=cap) hT zA zA hi ?_
   refine rA (dn ?_)
   generalize hA:((((((a2.put (some (t1+4)) (a2.eval (.tmp (t1+2)))).put (some n) ((a2.put (some (t1+4)) (a2.eval (.tmp (t1+2)))).eval (.tmp (t1+4))))).put (some (t1+5)) _).put (some (t1+6)) _).put (some (t1+7)) (.pointer (some ⟨q,0+i*e.size,none⟩)))=A
   have hA7:A.eval (.tmp (t1+7))=.pointer (some ⟨q,0+i*e.size,none⟩):=by rw[← hA];exact zE
   have hAk:∀ k,k≠n->k<t1+4->A.eval (.tmp k)=a2.eval (.tmp k):=by intro k hk hkt;rw[← hA];exact zE
   have hAs:A.tmps.size=a2.tmps.size:=by rw[← hA];simp only[zP]
   have hAd:A.defers=a2.defers:=by rw[← hA];simp only[dF]
   have hB1:∀ k,k≠n->k≠n+1->k<t1+4->(A.put (some (n+1)) (A.eval (.tmp (t1+7)))).eval (.tmp k)=a2.eval (.tmp k):=by
    intro k h h' h''
    rw[qi _ _ _ _ zH]
    exact hAk k h h''
   have hBf:Fr (KW L n t) a2 (A.put (some (n+1)) (A.eval (.tmp (t1+7)))):=⟨by rw[zP,hAs],by rw[dF,hAd],fun k hk=>hB1 k (by have:=hk.2;omega) (by have:=hk.2;omega) (by have:=hk.2;omega)⟩
   have hstB:=hw2.fr hs hBf (hB1 1 zH zH zH)
   refine he G x ver fx L (n+1) (n+2) (t1+8) (b+2) (q+1) _ w2 _ c l[i] _ hoke (hs.up zH zH zH) zH zH zH (by rw[hBf.size];omega) hstB ?_ hrc ?_ ?_
   ·simp only[Ty.Holds,htp]
    refine ⟨q,0+i*e.size,?_,by rw[Nat.zero_add];exact hcc⟩
    rw[qD _ _ _ (by rw[hAs];omega),hA7]
   ·have:=yx l (fun d=>e.wr fx ver d) (i+1)
    rw[jS _ _ _ hi] at this
    simp only[List.length_append] at this hb ⊢
    omega
   ·intro a3 w3 hf3 hst3
    refine ⟨⟨(hfr2.trans hBf).trans (hf3.mono (KW.mono zH zH)),?_⟩,?_,?_,?_,?_⟩
    ·rw[jS _ _ _ hi]
     simpa [List.append_assoc] using hst3
    ·rw[hf3.slot (t1+2) ⟨by omega,.inr ⟨by omega,by omega⟩⟩];exact hB1 _ zH zH zH
    ·rw[hf3.slot (t1+1) ⟨by omega,.inr ⟨by omega,by omega⟩⟩];exact hB1 _ zH zH zH
    ·rw[hf3.size,hBf.size]
    ·rw[hf3.slot t1 ⟨by omega,.inr ⟨by omega,by omega⟩⟩];exact hB1 _ zH zH zH
  | none =>
   have hh:e.h=4:=by simp[Ty.h,htp]
   rw[hh] at ht
   obtain ⟨hone,hsz1⟩:=okW_one hoke htp hearr
   refine m_wloop hav1 hT (by unfold big at hbig;omega) zH zH zH I stab hI0 ?_ hdone
   intro i a2 w2 hi ⟨hfr2,hw2⟩ hcnt hsz2 ht02
   obtain ⟨q,rfl,hq,c,hcl,hcc,hrc⟩:=hel i hi
   have hav2:a2.eval (.tmp v)=.slice (some ⟨q,0,none⟩) l.length cap:=by rw[hfr2.slot v ⟨hv1,.inl hv⟩];exact ha
   obtain ⟨u,rfl⟩:=hrep _ _ _ hrc htp hearr
   have hcu:w2.cell? ⟨q,0+i*e.size,none⟩=some u:=by
    have:=hcc 0 u rfl
    rw[Nat.add_zero] at this
    rw[Nat.zero_add,hw2.below.cell (p:=⟨q,i*e.size,none⟩) hq]
    exact this
   refine vX (rM (rA (dn (vX (rM (rM ?_))))))
   refine qA (j:=i) (k:=.i64) (b:=q) (o:=0) (len:=l.length) (cap:=cap) hT zA zA hi ?_
   refine rL (b:=q) (o:=0+i*e.size) zE hone hcu ?_
   refine rA (dn ?_)
   generalize hA:(((((((a2.put (some (t1+4)) (a2.eval (.tmp (t1+2)))).put (some n) ((a2.put (some (t1+4)) (a2.eval (.tmp (t1+2)))).eval (.tmp (t1+4))))).put (some (t1+5)) _).put (some (t1+6)) _).put (some (t1+7)) (.pointer (some ⟨q,0+i*e.size,none⟩))).put (some (t1+8)) u)=A
   have hA7:A.eval (.tmp (t1+8))=u:=by rw[← hA];exact zE
   have hAk:∀ k,k≠n->k<t1+4->A.eval (.tmp k)=a2.eval (.tmp k):=by intro k hk hkt;rw[← hA];exact zE
   have hAs:A.tmps.size=a2.tmps.size:=by rw[← hA];simp only[zP]
   have hAd:A.defers=a2.defers:=by rw[← hA];simp only[dF]
   have hB1:∀ k,k≠n->k≠n+1->k<t1+4->(A.put (some (n+1)) (A.eval (.tmp (t1+8)))).eval (.tmp k)=a2.eval (.tmp k):=by
    intro k h h' h''
    rw[qi _ _ _ _ zH]
    exact hAk k h h''
   have hBf:Fr (KW L n t) a2 (A.put (some (n+1)) (A.eval (.tmp (t1+8)))):=⟨by rw[zP,hAs],by rw[dF,hAd],fun k hk=>hB1 k (by have:=hk.2;omega) (by have:=hk.2;omega) (by have:=hk.2;omega)⟩
   have hstB:=hw2.fr hs hBf (hB1 1 zH zH zH)
   refine he G x ver fx L (n+1) (n+2) (t1+9) (b+2) (q+1) _ w2 _ [u] l[i] _ hoke (hs.up zH zH zH) zH zH zH (by rw[hBf.size];omega) hstB ?_ hrc ?_ ?_
   ·simp only[Ty.Holds,htp,hearr,Bool.false_eq_true,if_false]
    rw[qD _ _ _ (by rw[hAs];omega),hA7]
   ·have:=yx l (fun d=>e.wr fx ver d) (i+1)
    rw[jS _ _ _ hi] at this
    simp only[List.length_append] at this hb ⊢
    omega
   ·intro a3 w3 hf3 hst3
    refine ⟨⟨(hfr2.trans hBf).trans (hf3.mono (KW.mono zH zH)),?_⟩,?_,?_,?_,?_⟩
    ·rw[jS _ _ _ hi]
     simpa [List.append_assoc] using hst3
    ·rw[hf3.slot (t1+2) ⟨by omega,.inr ⟨by omega,by omega⟩⟩];exact hB1 _ zH zH zH
    ·rw[hf3.slot (t1+1) ⟨by omega,.inr ⟨by omega,by omega⟩⟩];exact hB1 _ zH zH zH
    ·rw[hf3.size,hBf.size]
    ·rw[hf3.slot t1 ⟨by omega,.inr ⟨by omega,by omega⟩⟩];exact hB1 _ zH zH zH
 | _=>exact absurd hr (by simp[Ty.Rep])
end
end Go.Km
